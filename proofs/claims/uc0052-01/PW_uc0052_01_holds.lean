import PyProof.Rows.All
import Wide.All
import OpenK.AllK
import Wide.FinOn
import PySem.Challenge.RW_uc0052_01
set_option Elab.async false
set_option maxRecDepth 100000
set_option maxHeartbeats 8000000
set_option linter.unusedVariables false
local macro_rules | `(tactic| omega) => `(tactic| first | lia | omega (splitDisjunctions := true))

noncomputable section
--# Hk1
set_option maxHeartbeats 8000000
namespace Mine
open PySem PySem.W PyProof.Rows
section
theorem pick (H : Hook) (h : PySem.Challenge.rw_uc0052_01.row.Holds) : PySem.Challenge.rw_uc0052_01.row.Holds := h
local macro_rules | `(tactic| o_head $H) => `(tactic| exact pick $H (by assumption))
theorem frag (h : PySem.Challenge.rw_uc0052_01.row.Holds) : PySem.Challenge.rw_uc0052_01.row.Holds := by km_head
end
end Mine
end

noncomputable section
--# Lb1
set_option genSizeOf false
set_option genInjectivity false
namespace Mine
open PySem PySem.W PyProof.Rows PySem.Calls

abbrev prog : Program := PySem.Challenge.pw_uc0052_01
noncomputable def KK : Params → Frag := Mine.frag.heap_1

theorem fall_nil {α β : Type} {P : α → β → Prop} : ∀ x d, (x, d) ∈ ([] : List (α × β)) → P x d := fun _ _ h => absurd h List.not_mem_nil
theorem fall {α β : Type} {P : α → β → Prop} {a : α} {b : β} {l : List (α × β)} (h : P a b) (t : ∀ x d, (x, d) ∈ l → P x d) : ∀ x d, (x, d) ∈ (a, b) :: l → P x d :=
  fun x d m => (List.mem_cons.mp m).elim (fun e => (Prod.mk.inj e).1 ▸ (Prod.mk.inj e).2 ▸ h) (t x d)
theorem all0 {α : Type} {P : List α → Prop} (h : P []) (l : List α) (e : l.length = 0) : P l := List.length_eq_zero_iff.mp e ▸ h
theorem allS {α : Type} {k : Nat} {P : List α → Prop} (h : ∀ a, ∀ l : List α, l.length = k → P (a :: l)) : ∀ l : List α, l.length = k + 1 → P l
  | a :: l, e => h a l (Nat.succ.inj e)
theorem all1 {α : Type} {P : List α → Prop} (h : ∀ a, P [a]) : ∀ l : List α, l.length = 1 → P l := allS fun a => all0 (h a)
theorem all2 {α : Type} {P : List α → Prop} (h : ∀ a b, P [a, b]) : ∀ l : List α, l.length = 2 → P l := allS fun a => all1 (h a)
theorem all3 {α : Type} {P : List α → Prop} (h : ∀ a b c, P [a, b, c]) : ∀ l : List α, l.length = 3 → P l := allS fun a => all2 (h a)
theorem all4 {α : Type} {P : List α → Prop} (h : ∀ a b c d, P [a, b, c, d]) : ∀ l : List α, l.length = 4 → P l := allS fun a => all3 (h a)
theorem all6 {α : Type} {P : List α → Prop} (h : ∀ a b c d e f, P [a, b, c, d, e, f]) : ∀ l : List α, l.length = 6 → P l := allS fun a => allS fun b => all4 (h a b)

/-- the i-th of a list -/
noncomputable def nth {α : Type} (l : List α) : Nat → Option α := List.rec (fun _ => none) (fun a _ ih i => Nat.casesOn i (some a) ih) l
theorem ix {α : Type} {a : α} : ∀ {l : List α} (i : Nat), nth l i = some a → a ∈ l
  | b :: l, 0, e => Option.some.inj e ▸ .head _
  | b :: l, i + 1, e => .tail _ (ix (l := l) i e)

/-- abstract data -/
inductive D where
  | none
  | bool (b : Bool)
  | int (i : Int)
  | str (x : Str)
  | list (l : List D)
  | tup (l : List D)
  | inst (fs : List (Str × D))
  | fn (a : Nat)
  | clo (a : Nat) (objs : List (Nat × Obj))
  | bi (id : String)
  | ty (n : String)

/-- plain data, that no heap bears -/
noncomputable def D.imm : D → Bool
  | .none | .bool _ | .int _ | .str _ | .bi _ | .ty _ => true
  | _ => false

/-- the names that the namespace of a Whitespace may hold -/
noncomputable def instNames : List Str := ["raw", "n", "nt", "norm", "is_simple"]
mutual
/-- the value bears the datum in the heap, all its parts within G -/
inductive Rep (h : Heap) (G : Nat → Prop) : Value → D → Prop
  | none : Rep h G .none .none
  | bool (b : Bool) : Rep h G (.bool b) (.bool b)
  | int (i : Int) (t : Tok) : Rep h G (.int i t) (.int i)
  | str (x : Str) (t : Tok) : Rep h G (.str x t) (.str x)
  | fn (a : Nat) : Rep h G (.ref a) (.fn a)
  | clo {a : Nat} {objs : List (Nat × Obj)} : (∀ p ∈ objs, G p.1 ∧ h.get? p.1 = some p.2) → Rep h G (.ref a) (.clo a objs)
  | bi (id : String) : Rep h G (.builtin id) (.bi id)
  | ty (n : String) : Rep h G (.type n) (.ty n)
  | list {a : Nat} {vs : List Value} {ds : List D} : G a → h.IsList a vs.toArray → RepL h G vs ds → Rep h G (.ref a) (.list ds)
  | tup {a : Nat} {vs : List Value} {ds : List D} : G a → IsTup h a vs.toArray → RepL h G vs ds → Rep h G (.ref a) (.tup ds)
  | inst {a da : Nat} {m : Str → Option Value} {fs : List (Str × D)} : G a → G da → h.get? a = some (instObj 146 da) → h.Ns da m → RepF h G m fs → Rep h G (.ref a) (.inst fs)
inductive RepL (h : Heap) (G : Nat → Prop) : List Value → List D → Prop
  | nil : RepL h G [] []
  | cons {v : Value} {d : D} {vs : List Value} {ds : List D} : Rep h G v d → RepL h G vs ds → RepL h G (v :: vs) (d :: ds)
inductive RepF (h : Heap) (G : Nat → Prop) : (Str → Option Value) → List (Str × D) → Prop
  | nil {m : Str → Option Value} : (∀ x v, m x = some v → x ∈ instNames) → RepF h G m []
  | cons {m : Str → Option Value} {x : Str} {v : Value} {d : D} {fs : List (Str × D)} : m x = some v → Rep h G v d → RepF h G m fs → RepF h G m ((x, d) :: fs)
end

section
variable {h : Heap} {G : Nat → Prop}
/-- what the value is, by the datum -/
noncomputable def Rep.Inv (h : Heap) (G : Nat → Prop) (v : Value) : D → Prop
  | .none => v = .none
  | .bool b => v = .bool b
  | .int i => ∃ t, v = .int i t
  | .str x => ∃ t, v = .str x t
  | .fn a => v = .ref a
  | .clo a objs => v = .ref a ∧ ∀ p ∈ objs, G p.1 ∧ h.get? p.1 = some p.2
  | .bi id => v = .builtin id
  | .ty n => v = .type n
  | .list ds => ∃ a vs, v = .ref a ∧ G a ∧ h.IsList a vs.toArray ∧ RepL h G vs ds
  | .tup ds => ∃ a vs, v = .ref a ∧ G a ∧ IsTup h a vs.toArray ∧ RepL h G vs ds
  | .inst fs => ∃ a da m, v = .ref a ∧ G a ∧ G da ∧ h.get? a = some (instObj 146 da) ∧ h.Ns da m ∧ RepF h G m fs
theorem Rep.inv {v : Value} {d : D} (r : Rep h G v d) : Rep.Inv h G v d :=
  Rep.casesOn (motive_1 := fun v d _ => Rep.Inv h G v d) r rfl (fun _ => rfl) (fun _ t => ⟨t, rfl⟩) (fun _ t => ⟨t, rfl⟩) (fun _ => rfl) (fun q => ⟨rfl, q⟩) (fun _ => rfl) (fun _ => rfl)
    (fun ga hl rs => ⟨_, _, rfl, ga, hl, rs⟩) (fun ga hl rs => ⟨_, _, rfl, ga, hl, rs⟩) (fun ga gd ho hn rs => ⟨_, _, _, rfl, ga, gd, ho, hn, rs⟩)
@[elab_as_elim] theorem Rep.intE {i : Int} {motive : ∀ v, Rep h G v (.int i) → Prop} (int : ∀ t, motive (.int i t) (.int i t)) {v : Value} (r : Rep h G v (.int i)) : motive v r := by
  obtain ⟨t, rfl⟩ := r.inv; exact int t
@[elab_as_elim] theorem Rep.strE {x : Str} {motive : ∀ v, Rep h G v (.str x) → Prop} (str : ∀ t, motive (.str x t) (.str x t)) {v : Value} (r : Rep h G v (.str x)) : motive v r := by
  obtain ⟨t, rfl⟩ := r.inv; exact str t
@[elab_as_elim] theorem Rep.boolE {x : Bool} {motive : ∀ v, Rep h G v (.bool x) → Prop} (bool : motive (.bool x) (.bool x)) {v : Value} (r : Rep h G v (.bool x)) : motive v r := by
  obtain rfl := r.inv; exact bool
@[elab_as_elim] theorem Rep.noneE {motive : ∀ v, Rep h G v (.none) → Prop} (none : motive .none .none) {v : Value} (r : Rep h G v (.none)) : motive v r := by
  obtain rfl := r.inv; exact none
@[elab_as_elim] theorem Rep.biE {x : String} {motive : ∀ v, Rep h G v (.bi x) → Prop} (bi : motive (.builtin x) (.bi x)) {v : Value} (r : Rep h G v (.bi x)) : motive v r := by
  obtain rfl := r.inv; exact bi
@[elab_as_elim] theorem Rep.tyE {x : String} {motive : ∀ v, Rep h G v (.ty x) → Prop} (ty : motive (.type x) (.ty x)) {v : Value} (r : Rep h G v (.ty x)) : motive v r := by
  obtain rfl := r.inv; exact ty
@[elab_as_elim] theorem Rep.fnE {x : Nat} {motive : ∀ v, Rep h G v (.fn x) → Prop} (fn : motive (.ref x) (.fn x)) {v : Value} (r : Rep h G v (.fn x)) : motive v r := by
  obtain rfl := r.inv; exact fn
@[elab_as_elim] theorem Rep.cloE {x : Nat} {objs : List (Nat × Obj)} {motive : ∀ v, Rep h G v (.clo x objs) → Prop} (clo : ∀ q, motive (.ref x) (.clo q)) {v : Value} (r : Rep h G v (.clo x objs)) : motive v r := by
  obtain ⟨rfl, q⟩ := r.inv; exact clo q
@[elab_as_elim] theorem Rep.listE {ds : List D} {motive : ∀ v, Rep h G v (.list ds) → Prop} (list : ∀ {a : Nat} {vs : List Value} (ga : G a) (hl : h.IsList a vs.toArray) (rs : RepL h G vs ds), motive (.ref a) (.list ga hl rs)) {v : Value} (r : Rep h G v (.list ds)) : motive v r := by
  obtain ⟨a, vs, rfl, ga, hl, rs⟩ := r.inv; exact list ga hl rs
@[elab_as_elim] theorem Rep.tupE {ds : List D} {motive : ∀ v, Rep h G v (.tup ds) → Prop} (tup : ∀ {a : Nat} {vs : List Value} (ga : G a) (hl : IsTup h a vs.toArray) (rs : RepL h G vs ds), motive (.ref a) (.tup ga hl rs)) {v : Value} (r : Rep h G v (.tup ds)) : motive v r := by
  obtain ⟨a, vs, rfl, ga, hl, rs⟩ := r.inv; exact tup ga hl rs
@[elab_as_elim] theorem Rep.instE {fs : List (Str × D)} {motive : ∀ v, Rep h G v (.inst fs) → Prop} (inst : ∀ {a da : Nat} {m : Str → Option Value} (ga : G a) (gd : G da) (ho : h.get? a = some (instObj 146 da)) (hn : h.Ns da m) (rs : RepF h G m fs), motive (.ref a) (.inst ga gd ho hn rs)) {v : Value} (r : Rep h G v (.inst fs)) : motive v r := by
  obtain ⟨a, da, m, rfl, ga, gd, ho, hn, rs⟩ := r.inv; exact inst ga gd ho hn rs
@[elab_as_elim] theorem RepL.nilE {motive : ∀ vs, RepL h G vs [] → Prop} (nil : motive [] .nil) : ∀ {vs : List Value} (r : RepL h G vs []), motive vs r
  | _, .nil => nil
@[elab_as_elim] theorem RepL.consE {d : D} {ds : List D} {motive : ∀ vs, RepL h G vs (d :: ds) → Prop} (cons : ∀ {v : Value} {vs : List Value} (r : Rep h G v d) (rs : RepL h G vs ds), motive (v :: vs) (.cons r rs)) : ∀ {vs : List Value} (r : RepL h G vs (d :: ds)), motive vs r
  | _, .cons r rs => cons r rs
@[elab_as_elim] theorem RepL.oneE {d : D} {motive : ∀ vs, RepL h G vs [d] → Prop} (one : ∀ {v : Value} (r : Rep h G v d), motive [v] (.cons r .nil)) {vs : List Value} (r : RepL h G vs [d]) : motive vs r :=
  r.consE fun r rs => rs.nilE (motive := fun vs rs => motive _ (.cons r rs)) (one r)
@[elab_as_elim] theorem RepL.twoE {d e : D} {motive : ∀ vs, RepL h G vs [d, e] → Prop} (two : ∀ {v u : Value} (r : Rep h G v d) (q : Rep h G u e), motive [v, u] (.cons r (.cons q .nil))) {vs : List Value} (r : RepL h G vs [d, e]) : motive vs r :=
  r.consE fun r rs => rs.oneE (motive := fun vs rs => motive _ (.cons r rs)) (two r)
theorem RepF.consE {x : Str} {d : D} {fs : List (Str × D)} {m : Str → Option Value} {P : Prop} (cons : ∀ {v : Value}, m x = some v → Rep h G v d → RepF h G m fs → P) : RepF h G m ((x, d) :: fs) → P
  | .cons e r rs => cons e r rs
theorem RepF.nilE {m : Str → Option Value} : RepF h G m [] → ∀ x v, m x = some v → x ∈ instNames
  | .nil q => q
end

/-- the heap keeps what stands within G, and G grows -/
noncomputable def KeepsOn (G : Nat → Prop) (h h' : Heap) : Prop := ∀ b o, G b → h.get? b = some o → h'.get? b = some o

theorem tup_move {h h' : Heap} {a : Nat} {vs : Array Value} (x : IsTup h a vs) (k : ∀ o, h.get? a = some o → h'.get? a = some o) : IsTup h' a vs := let ⟨o, ho, q⟩ := x; ⟨o, k o ho, q⟩
theorem Rep.mono {h h' : Heap} {G G' : Nat → Prop} (k : KeepsOn G h h') (g : ∀ a, G a → G' a) {v : Value} {d : D} (r : Rep h G v d) : Rep h' G' v d :=
  Rep.rec (motive_1 := fun v d _ => Rep h' G' v d) (motive_2 := fun vs ds _ => RepL h' G' vs ds) (motive_3 := fun m fs _ => RepF h' G' m fs)
    .none .bool .int .str .fn (fun q => .clo fun p hp => ⟨g _ (q p hp).1, k _ _ (q p hp).1 (q p hp).2⟩) .bi .ty
    (fun ha hl _ r => .list (g _ ha) (hl.at fun o e => k _ o ha e) r) (fun ha ht _ r => .tup (g _ ha) (tup_move ht fun o e => k _ o ha e) r)
    (fun ha hd ho hn _ r => .inst (g _ ha) (g _ hd) (k _ _ ha ho) (hn.at fun o e => k _ o hd e) r) .nil (fun _ _ r rs => .cons r rs) .nil (fun e _ _ r rs => .cons e r rs) r
/-- along the data -/
theorem RepL.go {h h' : Heap} {G G' : Nat → Prop} {ds : List D} : (∀ v d, d ∈ ds → Rep h G v d → Rep h' G' v d) → ∀ {vs : List Value}, RepL h G vs ds → RepL h' G' vs ds :=
  List.rec (motive := fun ds => (∀ v d, d ∈ ds → Rep h G v d → Rep h' G' v d) → ∀ {vs : List Value}, RepL h G vs ds → RepL h' G' vs ds) (fun _ _ r => r.nilE .nil)
    (fun _ _ ih f _ r => r.consE fun r rs => .cons (f _ _ (.head _) r) (ih (fun v d m => f v d (.tail _ m)) rs)) ds
theorem RepL.mono {h h' : Heap} {G G' : Nat → Prop} (k : KeepsOn G h h') (g : ∀ a, G a → G' a) {vs : List Value} {ds : List D} (r : RepL h G vs ds) : RepL h' G' vs ds := r.go fun _ _ _ r => r.mono k g
theorem RepF.mono {h h' : Heap} {G G' : Nat → Prop} (k : KeepsOn G h h') (g : ∀ a, G a → G' a) {m : Str → Option Value} {fs : List (Str × D)} : RepF h G m fs → RepF h' G' m fs :=
  List.rec (motive := fun fs => RepF h G m fs → RepF h' G' m fs) (fun r => .nil r.nilE) (fun _ _ ih r => r.consE fun e r rs => .cons e (r.mono k g) (ih rs)) fs
theorem Rep.imm {h h' : Heap} {G G' : Nat → Prop} {v : Value} {d : D} (r : Rep h G v d) (hd : d.imm = true) : Rep h' G' v d :=
  Rep.casesOn (motive_1 := fun v d _ => d.imm = true → Rep h' G' v d) r (fun _ => .none) (fun _ _ => .bool _) (fun _ _ _ => .int ..) (fun _ _ _ => .str ..) (fun _ q => absurd q Bool.noConfusion) (fun _ q => absurd q Bool.noConfusion) (fun _ _ => .bi _) (fun _ _ => .ty _)
    (fun _ _ _ q => absurd q Bool.noConfusion) (fun _ _ _ q => absurd q Bool.noConfusion) (fun _ _ _ _ _ q => absurd q Bool.noConfusion) hd
theorem RepL.imm {h h' : Heap} {G G' : Nat → Prop} {vs : List Value} {ds : List D} (r : RepL h G vs ds) (hd : ∀ d ∈ ds, d.imm = true) : RepL h' G' vs ds := r.go fun _ d m r => r.imm (hd d m)
theorem RepL.length {h : Heap} {G : Nat → Prop} {vs : List Value} {ds : List D} : RepL h G vs ds → vs.length = ds.length :=
  List.rec (motive := fun ds => ∀ {vs : List Value}, RepL h G vs ds → vs.length = ds.length) (fun r => r.nilE rfl) (fun _ _ ih _ r => r.consE fun _ rs => congrArg Nat.succ (ih rs)) ds
theorem RepL.get {h : Heap} {G : Nat → Prop} {vs : List Value} {ds : List D} (r : RepL h G vs ds) {i : Nat} {d : D} (e : ds[i]? = some d) : ∃ v, vs[i]? = some v ∧ Rep h G v d :=
  List.rec (motive := fun ds => ∀ {vs : List Value}, RepL h G vs ds → ∀ i, ds[i]? = some d → ∃ v, vs[i]? = some v ∧ Rep h G v d) (fun _ _ e => absurd e.symm (Option.some_ne_none d))
    (fun _ _ ih _ r => r.consE fun {v _} r rs i => Nat.casesOn i (fun e => ⟨v, rfl, Option.some.inj e ▸ r⟩) fun i e => ih rs i e) ds r i e
theorem RepL.append {h : Heap} {G : Nat → Prop} {vs vs' : List Value} {ds ds' : List D} (r : RepL h G vs ds) (q : RepL h G vs' ds') : RepL h G (vs ++ vs') (ds ++ ds') :=
  List.rec (motive := fun ds => ∀ {vs : List Value}, RepL h G vs ds → RepL h G (vs ++ vs') (ds ++ ds')) (fun r => r.nilE q) (fun _ _ ih _ r => r.consE fun r rs => .cons r (ih rs)) ds r
theorem RepL.reverse {h : Heap} {G : Nat → Prop} {vs : List Value} {ds : List D} (r : RepL h G vs ds) : RepL h G vs.reverse ds.reverse :=
  List.rec (motive := fun ds => ∀ {vs : List Value}, RepL h G vs ds → RepL h G vs.reverse ds.reverse) (fun r => r.nilE .nil) (fun _ _ ih _ r => r.consE fun {v vs} r rs => by
    rw [List.reverse_cons, List.reverse_cons]; exact (ih rs).append (.cons r .nil)) ds r
theorem RepF.get {h : Heap} {G : Nat → Prop} {m : Str → Option Value} {fs : List (Str × D)} (r : RepF h G m fs) {x : Str} {d : D} (hm : (x, d) ∈ fs) : ∃ v, m x = some v ∧ Rep h G v d :=
  List.rec (motive := fun fs => RepF h G m fs → (x, d) ∈ fs → ∃ v, m x = some v ∧ Rep h G v d) (fun _ q => absurd q List.not_mem_nil)
    (fun p _ ih r q => r.consE fun {v} e r rs => (List.mem_cons.mp q).elim (fun z => ⟨v, Eq.subst (motive := fun y => m y = some v) (congrArg Prod.fst z).symm e, Eq.subst (motive := Rep h G v) (congrArg Prod.snd z).symm r⟩) (ih rs)) fs r hm

/-- the two tables that a nested def's code is written into -/
noncomputable def isTab (b : Nat) : Prop := b = 37 ∨ b = 44
noncomputable def TabFull (H h : Heap) (b : Nat) (l c : Int) (q : Str) : Prop :=
  ∃ c' : Nat, H.get? c' = none ∧ h.get? b = some (tabObj #[rawInt l, rawInt c, .ref c']) ∧ h.CodeRec (.ref c') q ∧ ∃ o, h.get? c' = some o ∧ o.cls = .type "code"

noncomputable def TabOk (H h : Heap) (b : Nat) (l c : Int) (q : Str) : Prop := h.get? b = some (tabObj #[]) ∨ TabFull H h b l c q

/-- the world, and the heap in which the law is called -/
structure Wd where
  w : World
  H : Heap
  K : (KK w.params).In H
  t1 : H.get? 37 = some (tabObj #[])
  t2 : H.get? 44 = some (tabObj #[])
  nolimit : H.NoLimit
  seer : H.NoSeer
  main : ∃ mg bm ob, H.Ns mainGlobals mg ∧ mg "__builtins__" = some (.ref bm) ∧ bm ≠ builtinsNs ∧ H.get? bm = some ob ∧ ob.cls = .type "module" ∧ ob.dict = some builtinsNs ∧ ob.data = .plain
abbrev MM (w : Wd) : Model := model prog w.w

/-- what holds of every state of the law's call -/
structure Inv (w : Wd) (s : Shared) : Prop where
  base : ∀ b o, w.H.get? b = some o → ¬ isTab b → s.heap.get? b = some o
  t1 : TabOk w.H s.heap 37 35 4 "_int2digits.<locals>.inner"
  t2 : TabOk w.H s.heap 44 50 4 "_digits2int.<locals>.inner"
  bare : AllBare s.gens

theorem Wd.notTab {w : Wd} {b : Nat} {o : Obj} (e : w.H.get? b = some o) (h : o ≠ tabObj #[]) : ¬ isTab b := by
  rintro (rfl | rfl)
  · exact h (Option.some.inj (e.symm.trans w.t1))
  · exact h (Option.some.inj (e.symm.trans w.t2))
theorem kk_tab1 : ∀ P, (KK P).lookup 37 = none := fun P => by kernel_rfl
theorem kk_tab2 : ∀ P, (KK P).lookup 44 = none := fun P => by kernel_rfl
theorem Inv.K {w : Wd} {s : Shared} (i : Inv w s) : (KK w.w.params).In s.heap := fun a o e => by
  refine i.base a o (w.K a o e) ?_
  rintro (rfl | rfl)
  · rw [kk_tab1] at e; cases e
  · rw [kk_tab2] at e; cases e
theorem Inv.ns {w : Wd} {s : Shared} (i : Inv w s) {a : Nat} {m : Str → Option Value} (x : w.H.Ns a m) : s.heap.Ns a m := by
  obtain ⟨o, es, ep, e, hd, r⟩ := x
  exact ⟨o, es, ep, i.base a o e (Wd.notTab e (by rintro rfl; cases hd)), hd, r⟩
theorem Inv.nolimit {w : Wd} {s : Shared} (i : Inv w s) : s.heap.NoLimit := let ⟨mc, x, y⟩ := w.nolimit; ⟨mc, i.ns x, y⟩
theorem Inv.seer {w : Wd} {s : Shared} (i : Inv w s) : s.heap.NoSeer where
  statics := let ⟨mc, a, b⟩ := w.seer.statics; ⟨mc, i.ns a, b⟩
  mods := let ⟨mc, a, b⟩ := w.seer.mods; ⟨mc, i.ns a, b⟩
  imp := let ⟨mc, a, b⟩ := w.seer.imp; ⟨mc, i.ns a, b⟩
  main := let ⟨mg, bm, ob, a, b, c, d, e⟩ := w.seer.main; ⟨mg, bm, ob, i.ns a, b, i.base _ _ c (Wd.notTab c (by rintro rfl; cases d)), d, e⟩

theorem TabOk.there {H h : Heap} {b : Nat} {l c : Int} {q : Str} (x : TabOk H h b l c q) : ∃ ps, h.get? b = some (tabObj ps) := by
  rcases x with x | ⟨c', _, x, _⟩ <;> exact ⟨_, x⟩
theorem Inv.tabs {w : Wd} {s : Shared} (i : Inv w s) {b : Nat} (hb : isTab b) : ∃ ps, s.heap.get? b = some (tabObj ps) := by
  rcases hb with rfl | rfl
  · exact i.t1.there
  · exact i.t2.there
/-- not the top's -/
noncomputable def Own (w : Wd) (a : Nat) : Prop := w.H.get? a = none
theorem Own.notTab {w : Wd} {a : Nat} (h : Own w a) : ¬ isTab a := by
  rintro (rfl | rfl)
  · unfold Own at h; rw [w.t1] at h; cases h
  · unfold Own at h; rw [w.t2] at h; cases h
theorem Inv.own {w : Wd} {s : Shared} (i : Inv w s) {a : Nat} (h : s.heap.get? a = none) : Own w a := by
  cases e : w.H.get? a with
  | none => exact e
  | some o =>
    by_cases hb : isTab a
    · obtain ⟨ps, q⟩ := i.tabs hb
      rw [h] at q; cases q
    · rw [i.base a o e hb] at h; cases h

noncomputable def TabStep (h h' : Heap) (b : Nat) : Prop := h'.get? b = h.get? b ∨ (h.get? b = some (tabObj #[]) ∧ ∃ ps, h'.get? b = some (tabObj ps))
theorem TabStep.refl (h : Heap) (b : Nat) : TabStep h h b := .inl rfl
theorem TabStep.trans {h h' h'' : Heap} {b : Nat} (x : TabStep h h' b) (y : TabStep h' h'' b) : TabStep h h'' b := by
  rcases x with x | ⟨x, ps, hx⟩
  · rcases y with y | ⟨y, qs, hy⟩
    · exact .inl (y.trans x)
    · exact .inr ⟨x ▸ y, qs, hy⟩
  · rcases y with y | ⟨y, qs, hy⟩
    · exact .inr ⟨x, ps, y.trans hx⟩
    · exact .inr ⟨x, qs, hy⟩

/-- new in s' -/
noncomputable def New (s s' : Shared) (a : Nat) : Prop := s.heap.get? a = none ∧ ∃ o, s'.heap.get? a = some o

/-- from s on to s': all is kept but W, the tables may be filled; G grows by what is new -/
structure Adv (w : Wd) (W : Nat → Prop) (s : Shared) (G : Nat → Prop) (s' : Shared) (G' : Nat → Prop) : Prop where
  there : ∀ b o, s.heap.get? b = some o → ∃ o', s'.heap.get? b = some o'
  keep : ∀ b o, s.heap.get? b = some o → ¬ W b → ¬ isTab b → s'.heap.get? b = some o
  tab : ∀ b, isTab b → TabStep s.heap s'.heap b
  gens : ∀ (i : Nat) x, s.gens[i]? = some x → s'.gens[i]? = some x
  os : s'.os = s.os
  inv : Inv w s'
  sub : ∀ a, G a → G' a
  new : ∀ a, G' a → G a ∨ New s s' a
abbrev Nil : Nat → Prop := fun _ => False
abbrev Ext (w : Wd) (s : Shared) (G : Nat → Prop) (s' : Shared) (G' : Nat → Prop) : Prop := Adv w Nil s G s' G'

theorem Adv.nay {w : Wd} {W G G' : Nat → Prop} {s s' : Shared} (x : Adv w W s G s' G') {b : Nat} (h : s'.heap.get? b = none) : s.heap.get? b = none := by
  cases e : s.heap.get? b with
  | none => rfl
  | some o =>
    obtain ⟨o', q⟩ := x.there b o e
    rw [h] at q; cases q
theorem Adv.refl {w : Wd} {W G : Nat → Prop} {s : Shared} (i : Inv w s) : Adv w W s G s G :=
  ⟨fun _ o e => ⟨o, e⟩, fun _ _ e _ _ => e, fun b _ => .refl _ b, fun _ _ e => e, rfl, i, fun _ e => e, fun _ e => .inl e⟩
theorem Adv.trans {w : Wd} {W W₂ G G' G'' : Nat → Prop} {s s' s'' : Shared} (x : Adv w W s G s' G') (y : Adv w W₂ s' G' s'' G'') (hW : ∀ b, W₂ b → W b ∨ s.heap.get? b = none) : Adv w W s G s'' G'' where
  there := fun b o e => let ⟨o', e'⟩ := x.there b o e; y.there b o' e'
  keep := fun b o e nW t => y.keep b o (x.keep b o e nW t) (fun h2 => (hW b h2).elim nW fun h => by rw [e] at h; cases h) t
  tab := fun b hb => (x.tab b hb).trans (y.tab b hb)
  gens := fun i z e => y.gens i z (x.gens i z e)
  os := y.os.trans x.os
  inv := y.inv
  sub := fun a h => y.sub a (x.sub a h)
  new := fun a h => by
    rcases y.new a h with h | ⟨h1, h2⟩
    · rcases x.new a h with h | ⟨h1, o, h2⟩
      · exact .inl h
      · exact .inr ⟨h1, y.there a o h2⟩
    · exact .inr ⟨x.nay h1, h2⟩
theorem Ext.trans {w : Wd} {G G' G'' : Nat → Prop} {s s' s'' : Shared} (x : Ext w s G s' G') (y : Ext w s' G' s'' G'') : Ext w s G s'' G'' := Adv.trans x y fun _ h => h.elim

/-- what may be looked at lies in the heap and is not the top's -/
noncomputable def Gz (w : Wd) (G : Nat → Prop) (s : Shared) : Prop := ∀ a, G a → Own w a ∧ ∃ o, s.heap.get? a = some o
theorem Adv.gz {w : Wd} {W G G' : Nat → Prop} {s s' : Shared} (x : Adv w W s G s' G') (i : Inv w s) (z : Gz w G s) : Gz w G' s' := fun a h => by
  rcases x.new a h with h | ⟨h1, h2⟩
  · exact ⟨(z a h).1, let ⟨o, e⟩ := (z a h).2; x.there a o e⟩
  · exact ⟨i.own h1, h2⟩
theorem Adv.keepsOn {w : Wd} {W G G' F : Nat → Prop} {s s' : Shared} (x : Adv w W s G s' G') (z : ∀ a, F a → Own w a) (d : ∀ a, F a → ¬ W a) : KeepsOn F s.heap s'.heap :=
  fun b o hb e => x.keep b o e (d b hb) (z b hb).notTab
theorem Ext.keepOwn {w : Wd} {G G' : Nat → Prop} {s s' : Shared} (x : Ext w s G s' G') {a : Nat} (z : Own w a) {o : Obj} (e : s.heap.get? a = some o) : s'.heap.get? a = some o := x.keep a o e (fun h => h) z.notTab
theorem Ext.rep {w : Wd} {G G' : Nat → Prop} {s s' : Shared} {v : Value} {d : D} (x : Ext w s G s' G') (z : Gz w G s) (r : Rep s.heap G v d) : Rep s'.heap G' v d :=
  r.mono (x.keepsOn (fun a h => (z a h).1) fun _ _ h => h) x.sub
theorem Ext.repL {w : Wd} {G G' : Nat → Prop} {s s' : Shared} {v : List Value} {d : List D} (x : Ext w s G s' G') (z : Gz w G s) (r : RepL s.heap G v d) : RepL s'.heap G' v d :=
  r.mono (x.keepsOn (fun a h => (z a h).1) fun _ _ h => h) x.sub

theorem TabOk.keeps {H h h' : Heap} {b : Nat} {l c : Int} {q : Str} (x : TabOk H h b l c q) (k : ∀ b o, h.get? b = some o → h'.get? b = some o) : TabOk H h' b l c q := by
  rcases x with x | ⟨c', h0, h1, h2, o, h3, h4⟩
  · exact .inl (k _ _ x)
  · exact .inr ⟨c', h0, k _ _ h1, h2.keeps k, o, k _ _ h3, h4⟩
theorem Inv.toks {w : Wd} {s : Shared} (i : Inv w s) (t : Nat) : Inv w { s with toks := t } := ⟨i.base, i.t1, i.t2, i.bare⟩
theorem Inv.keeps {w : Wd} {s : Shared} (i : Inv w s) {h' : Heap} (k : ∀ b o, s.heap.get? b = some o → h'.get? b = some o) (t : Nat) : Inv w { s with heap := h', toks := t } :=
  ⟨fun b o e n => k _ _ (i.base b o e n), i.t1.keeps k, i.t2.keeps k, i.bare⟩
theorem Ext.of_keeps {w : Wd} {s : Shared} {G G' : Nat → Prop} (i : Inv w s) {h' : Heap} (k : ∀ b o, s.heap.get? b = some o → h'.get? b = some o) (t : Nat)
    (hs : ∀ a, G a → G' a) (hn : ∀ a, G' a → G a ∨ (s.heap.get? a = none ∧ ∃ o, h'.get? a = some o)) : Ext w s G { s with heap := h', toks := t } G' :=
  ⟨fun b o e => ⟨o, k b o e⟩, fun b o e _ _ => k b o e, fun b hb => by
    obtain ⟨ps, e⟩ := i.tabs hb
    exact .inl ((k _ _ e).trans e.symm), fun _ _ e => e, rfl, i.keeps k t, hs, hn⟩
theorem Ext.toks {w : Wd} {s : Shared} {G : Nat → Prop} (i : Inv w s) (t : Nat) : Ext w s G { s with toks := t } G :=
  .of_keeps (h' := s.heap) i (fun _ _ e => e) t (fun _ h => h) fun _ h => .inl h
theorem Ext.heap {w : Wd} {s : Shared} {G : Nat → Prop} (i : Inv w s) {h' : Heap} (k : ∀ b o, s.heap.get? b = some o → h'.get? b = some o) (t : Nat) : Ext w s G { s with heap := h', toks := t } G :=
  .of_keeps (h' := h') i k t (fun _ h => h) fun _ h => .inl h
theorem size_none (h : Heap) : h.get? h.objs.size = Option.none := by
  cases e : h.get? h.objs.size with
  | none => rfl
  | some o => exact absurd (Heap.lt_size e) (Nat.lt_irrefl _)
/-- one more thing that may be looked at -/
noncomputable def Plus (G : Nat → Prop) (a : Nat) : Nat → Prop := fun b => G b ∨ b = a
theorem Ext.plus {w : Wd} {s : Shared} {G : Nat → Prop} (i : Inv w s) {h' : Heap} (k : ∀ b o, s.heap.get? b = some o → h'.get? b = some o) (t : Nat) {a : Nat} (ha : s.heap.get? a = none) {o : Obj} (ho : h'.get? a = some o) :
    Ext w s G { s with heap := h', toks := t } (Plus G a) :=
  .of_keeps (h' := h') i k t (fun _ h => .inl h) fun b h => by
    rcases h with h | rfl
    · exact .inl h
    · exact .inr ⟨ha, o, ho⟩
end Mine
end

noncomputable section
--# Lb2
namespace Mine
open PySem PySem.W PyProof.Rows PySem.Calls

/-- room for n more calls -/
structure Bud (A : Around) (n : Nat) : Prop where
  hnd : A.handled = none
  dep : A.depth + n + 103 ≤ recursionLimit
  uni : A.units + 20 * n + 60 ≤ cLine
  frs : ∃ l, A.frames = some l
theorem Bud.le {A : Around} {n m : Nat} (b : Bud A n) (h : m ≤ n) : Bud A m := ⟨b.hnd, Nat.le_trans (Nat.add_le_add_right (Nat.add_le_add_left h _) _) b.dep, Nat.le_trans (Nat.add_le_add_right (Nat.add_le_add_left (Nat.mul_le_mul_left 20 h) _) _) b.uni, b.frs⟩
/-- the frame that runs is a plain def's -/
noncomputable def Frm (A : Around) : Prop := ∃ (e : Env) (l : List Env), A.frames = some (e :: l) ∧ e.scope.isGenerator = false ∧ e.scope.isCoroutine = false ∧ e.builtins = builtinsNs ∧ e.globals = mainGlobals
theorem Frm.room {w : Wd} {A : Around} {n : Nat} {s : Shared} (f : Frm A) (b : Bud A n) (i : Inv w s) : PylongRoom (MM w) A s := by
  obtain ⟨e, l, h1, h2, h3, h4, h5⟩ := f
  exact PylongRoom.of i.nolimit (by have := b.dep; unfold Builtin.pylongFrames; omega) (SeerAt.of i.seer rfl h1 h2 h3 h4 h5)

structure St (env : Env) : Prop where
  kind : env.scope.kind = .function
  glob : env.globals = 3
  blt : env.builtins = 0

noncomputable def GlobIs (x : Str) (v : Value) : Prop :=
  (∀ P, nsIn (KK P) 3 x = some (some v)) ∨ ((∀ P, nsIn (KK P) 3 x = some none) ∧ bootBuiltins x = some v ∧ x ≠ "__name__")

/-- the name has the value, read in this frame -/
inductive VarAt (w : Wd) (env : Env) (h : Heap) (x : Str) (v : Value) : Prop
  | loc {m : Str → Option Value} : env.kindOf x = some .local → Own w env.locals → h.Ns env.locals m → m x = some v → VarAt w env h x v
  | cel {c : Nat} : (env.kindOf x = some .cell ∨ env.kindOf x = some .free) → (x == ("__classdict__" : Str)) = false → env.cells.lookup x = some c → Own w c → h.IsCell c (some v) → VarAt w env h x v
  | glo : env.kindOf x = some .globalImplicit → GlobIs x v → VarAt w env h x v

theorem VarAt.keeps {w : Wd} {env : Env} {h h' : Heap} {x : Str} {v : Value} (V : VarAt w env h x v) (k : ∀ b o, Own w b → h.get? b = some o → h'.get? b = some o) : VarAt w env h' x v := by
  cases V with
  | loc hk hl hn hm => exact .loc hk hl (hn.at fun o e => k _ o hl e) hm
  | cel hk hx hc h2 hv => exact .cel hk hx hc h2 (let ⟨o, ho, hd⟩ := hv; ⟨o, k _ _ h2 ho, hd⟩)
  | glo hk hg => exact .glo hk hg

section
variable {w : Wd} {A : Around} {E : Value → Shared → Prop} {s : Shared} {env : Env} {x : Str} {v : Value}
theorem wp_loadName {Q : Value → Shared → Prop} (i : Inv w s) (st : St env) (V : VarAt w env s.heap x v) (h : Q v s) : wpAny (MM w) A (loadName env x) Q E s := by
  cases V with
  | loc hk hl hn hm => exact wpAny_loadName_local st.kind hk hn hm h
  | cel hk hx hc h2 hv =>
    rcases hk with hk | hk
    · exact wpAny_loadName_cell st.kind hk hc hv h
    · exact wpAny_loadName_free st.kind hk hc hv h hx
  | glo hk hg =>
    unfold loadName
    simp only [Env.blockKind, st.kind, hk, ScopeKind.isAnnotationScope, Bool.false_and, Bool.false_eq_true, if_false]
    unfold loadGlobal
    rw [st.glob]
    rcases hg with hg | ⟨hg, hb, hn⟩
    · refine wpAny_bind ((looks_nsIn (M := MM w) i.K (hg w.w.params)).here ?_)
      exact wpAny_pure h
    · refine wpAny_bind ((looks_nsIn (M := MM w) i.K (hg w.w.params)).here ?_)
      obtain ⟨mb, hns, he⟩ := i.seer.imp
      rw [st.blt]
      refine wpAny_bind (wpAny_nsGet hns ?_)
      rw [he x hn, hb]
      exact wpAny_pure h
end

/-- what a name of the frame holds: plainly a datum (or nothing yet); a list that the frame itself changes; an object that it fills -/
inductive Ent where
  | v (o : Option D)
  | ml (xs : List D)
  | ob (a : Nat) (fs : List (Str × D))
noncomputable def Ent.read : Ent → Option D
  | .v o => o
  | .ml xs => some (.list xs)
  | .ob _ fs => some (.inst fs)

abbrev Env2 := List (Str × D)
abbrev Rho := List (Str × Ent)

structure Rd (w : Wd) (env : Env) (G : Nat → Prop) (κ : Env2) (ρ : Rho) (s : Shared) : Prop where
  inv : Inv w s
  gz : Gz w G s
  st : St env
  var : ∀ x e d, (x, e) ∈ ρ → e.read = some d → ∃ v, VarAt w env s.heap x v ∧ Rep s.heap G v d
  con : ∀ x d, (x, d) ∈ κ → ∃ v, VarAt w env s.heap x v ∧ Rep s.heap G v d
  cells : env.cells.Pairwise fun x y => x.2 ≠ y.2

theorem Rd.ext {w : Wd} {env : Env} {G G' : Nat → Prop} {κ : Env2} {ρ : Rho} {s s' : Shared} (R : Rd w env G κ ρ s) (x : Ext w s G s' G') : Rd w env G' κ ρ s' where
  inv := x.inv
  gz := x.gz R.inv R.gz
  st := R.st
  var := fun y e d hm he => let ⟨v, V, r⟩ := R.var y e d hm he; ⟨v, V.keeps fun b o hb e => x.keepOwn hb e, x.rep R.gz r⟩
  con := fun y d hm => let ⟨v, V, r⟩ := R.con y d hm; ⟨v, V.keeps fun b o hb e => x.keepOwn hb e, x.rep R.gz r⟩
  cells := R.cells

/-- the value that comes back bears a datum that Q takes -/
inductive Post (w : Wd) (s : Shared) (G : Nat → Prop) (Q : D → Prop) (v : Value) (s' : Shared) : Prop
  | mk (G' : Nat → Prop) (d : D) (q : Q d) (r : Rep s'.heap G' v d) (x : Ext w s G s' G')
inductive PostB (w : Wd) (s : Shared) (G : Nat → Prop) (Q : Bool → Prop) (b : Bool) (s' : Shared) : Prop
  | mk (G' : Nat → Prop) (q : Q b) (x : Ext w s G s' G')
theorem Post.elim {w : Wd} {s : Shared} {G : Nat → Prop} {Q : D → Prop} {v : Value} {s' : Shared} {C : Prop} (p : Post w s G Q v s') (k : ∀ G' d, Q d → Rep s'.heap G' v d → Ext w s G s' G' → C) : C := let ⟨G', d, q, r, x⟩ := p; k G' d q r x
theorem PostB.elim {w : Wd} {s : Shared} {G : Nat → Prop} {Q : Bool → Prop} {b : Bool} {s' : Shared} {C : Prop} (p : PostB w s G Q b s') (k : ∀ G', Q b → Ext w s G s' G' → C) : C := let ⟨G', q, x⟩ := p; k G' q x
abbrev NoE : Value → Shared → Prop := fun _ _ => False

theorem Post.mono {w : Wd} {s : Shared} {G : Nat → Prop} {Q Q' : D → Prop} {v : Value} {s' : Shared} (p : Post w s G Q v s') (h : ∀ d, Q d → Q' d) : Post w s G Q' v s' := p.elim fun G' d q r x => ⟨G', d, h d q, r, x⟩
theorem Post.back {w : Wd} {s s₁ : Shared} {G G₁ : Nat → Prop} {Q : D → Prop} {v : Value} {s' : Shared} (x : Ext w s G s₁ G₁) (p : Post w s₁ G₁ Q v s') : Post w s G Q v s' := p.elim fun G' d q r y => ⟨G', d, q, r, x.trans y⟩
theorem PostB.back {w : Wd} {s s₁ : Shared} {G G₁ : Nat → Prop} {Q : Bool → Prop} {v : Bool} {s' : Shared} (x : Ext w s G s₁ G₁) (p : PostB w s₁ G₁ Q v s') : PostB w s G Q v s' := p.elim fun G' q y => ⟨G', q, x.trans y⟩
/-- a plain datum, no more than tokens drawn -/
theorem Post.now {w : Wd} {s : Shared} {G : Nat → Prop} {Q : D → Prop} {v : Value} {d : D} (i : Inv w s) (r : Rep s.heap G v d) (q : Q d) (t : Nat) : Post w s G Q v { s with toks := t } :=
  ⟨G, d, q, r, .toks i t⟩
theorem Post.here {w : Wd} {s : Shared} {G : Nat → Prop} {Q : D → Prop} {v : Value} {d : D} (i : Inv w s) (r : Rep s.heap G v d) (q : Q d) : Post w s G Q v s := ⟨G, d, q, r, .refl i⟩

/-- an expression's datum -/
structure EV (w : Wd) (n : Nat) (sc : Scope) (κ : Env2) (ρ : Rho) (e : Expr) (Q : D → Prop) : Prop where
  run : ∀ (A : Around) (env : Env) (G : Nat → Prop) (s : Shared), env.scope = sc → Bud A n → Frm A → Rd w env G κ ρ s → wpAny (MM w) A (eval e env) (Post w s G Q) NoE s
/-- a test -/
structure TV (w : Wd) (n : Nat) (sc : Scope) (κ : Env2) (ρ : Rho) (e : Expr) (Q : Bool → Prop) : Prop where
  run : ∀ (A : Around) (env : Env) (G : Nat → Prop) (s : Shared), env.scope = sc → Bud A n → Frm A → Rd w env G κ ρ s → wpAny (MM w) A (isTrue e env (eval e env)) (PostB w s G Q) NoE s
/-- several, in their order -/
inductive PostL (w : Wd) (s : Shared) (G : Nat → Prop) (Q : List D → Prop) (vs : List Value) (s' : Shared) : Prop
  | mk (G' : Nat → Prop) (ds : List D) (q : Q ds) (r : RepL s'.heap G' vs ds) (x : Ext w s G s' G')
theorem PostL.elim {w : Wd} {s : Shared} {G : Nat → Prop} {Q : List D → Prop} {vs : List Value} {s' : Shared} {C : Prop} (p : PostL w s G Q vs s') (k : ∀ G' ds, Q ds → RepL s'.heap G' vs ds → Ext w s G s' G' → C) : C := let ⟨G', d, q, r, x⟩ := p; k G' d q r x
structure EVs (w : Wd) (n : Nat) (sc : Scope) (κ : Env2) (ρ : Rho) (es : List Expr) (Q : List D → Prop) : Prop where
  run : ∀ (A : Around) (env : Env) (G : Nat → Prop) (s : Shared) (pos : Pos), env.scope = sc → Bud A n → Frm A → Rd w env G κ ρ s →
    wpAny (MM w) A (spliced (backTo pos (starEach es env))) (PostL w s G Q) NoE s

/-- an operation on values -/
structure Op1 (w : Wd) (n : Nat) (f : Value → Sem Value) (d : D) (Q : D → Prop) : Prop where
  run : ∀ (A : Around) (G : Nat → Prop) (s : Shared) (v : Value), Bud A n → Frm A → Inv w s → Gz w G s → Rep s.heap G v d → wpAny (MM w) A (f v) (Post w s G Q) NoE s
structure Op2 (w : Wd) (n : Nat) (f : Value → Value → Sem Value) (d1 d2 : D) (Q : D → Prop) : Prop where
  run : ∀ (A : Around) (G : Nat → Prop) (s : Shared) (v1 v2 : Value), Bud A n → Frm A → Inv w s → Gz w G s → Rep s.heap G v1 d1 → Rep s.heap G v2 d2 → wpAny (MM w) A (f v1 v2) (Post w s G Q) NoE s
structure Tru (w : Wd) (n : Nat) (d : D) (Q : Bool → Prop) : Prop where
  run : ∀ (A : Around) (G : Nat → Prop) (s : Shared) (v : Value), Bud A n → Frm A → Inv w s → Gz w G s → Rep s.heap G v d → wpAny (MM w) A (truthy v) (PostB w s G Q) NoE s
/-- a call of a value -/
structure CallOk (w : Wd) (n : Nat) (f : D) (args : List D) (Q : D → Prop) : Prop where
  run : ∀ (A : Around) (G : Nat → Prop) (s : Shared) (vf : Value) (vs : List Value), Bud A n → Frm A → Inv w s → Gz w G s → Rep s.heap G vf f → RepL s.heap G vs args → wpAny (MM w) A (call vf vs) (Post w s G Q) NoE s

/-- what comes next, by name -/
abbrev kEq (x d : D) : Prop := d = x
abbrev kEqB (b c : Bool) : Prop := c = b
abbrev kOp2 (w : Wd) (n : Nat) (f : Value → Value → Sem Value) (d1 : D) (Q : D → Prop) (d2 : D) : Prop := Op2 w n f d1 d2 Q
abbrev kBin (w : Wd) (n : Nat) (sc : Scope) (κ : Env2) (ρ : Rho) (r : Expr) (f : Value → Value → Sem Value) (Q : D → Prop) (d1 : D) : Prop := EV w n sc κ ρ r (kOp2 w n f d1 Q)
abbrev kOp1 (w : Wd) (n : Nat) (f : Value → Sem Value) (Q : D → Prop) (d : D) : Prop := Op1 w n f d Q
abbrev kTru (w : Wd) (n : Nat) (Q : Bool → Prop) (d : D) : Prop := Tru w n d Q
abbrev kIte (a b : Prop) (c : Bool) : Prop := if c = true then a else b
abbrev kCons (Q : List D → Prop) (d : D) (ds : List D) : Prop := Q (d :: ds)
abbrev kEVs (w : Wd) (n : Nat) (sc : Scope) (κ : Env2) (ρ : Rho) (es : List Expr) (Q : List D → Prop) (d : D) : Prop := EVs w n sc κ ρ es (kCons Q d)
theorem yes {a b p : Prop} [Decidable p] (h : p) (q : a) : kIte a b (decide p) := by rw [kIte, if_pos (decide_eq_true h)]; exact q
theorem no {a b p : Prop} [Decidable p] (h : ¬ p) (q : b) : kIte a b (decide p) := by rw [kIte, if_neg (by rw [decide_eq_true_eq]; exact h)]; exact q
theorem yesB {a b : Prop} {c : Bool} (h : c = true) (q : a) : kIte a b c := by rw [kIte, if_pos h]; exact q
theorem noB {a b : Prop} {c : Bool} (h : c = false) (q : b) : kIte a b c := by rw [kIte, if_neg (by rw [h]; exact Bool.noConfusion)]; exact q
/-- another word for what is asked for -/
theorem as {α : Type} {Q : α → Prop} {x y : α} (e : x = y) (q : Q y) : Q x := e ▸ q

section
variable {w : Wd} {n : Nat} {sc : Scope} {κ : Env2} {ρ : Rho}

theorem EV.mono {e : Expr} {Q Q' : D → Prop} (h : EV w n sc κ ρ e Q) (q : ∀ d, Q d → Q' d) : EV w n sc κ ρ e Q' :=
  ⟨fun A env G s hs b f R => wpAny_mono (h.run A env G s hs b f R) (fun _ _ p => p.mono q) fun _ _ x => x⟩
theorem CallOk.mono {f : D} {args : List D} {Q Q' : D → Prop} (h : CallOk w n f args Q) (q : ∀ d, Q d → Q' d) : CallOk w n f args Q' :=
  ⟨fun A G s vf vs b f i g rf ra => wpAny_mono (h.run A G s vf vs b f i g rf ra) (fun _ _ p => p.mono q) fun _ _ x => x⟩
/-- of one datum alone -/
theorem CallOk.to {f : D} {args : List D} {d : D} {Q : D → Prop} (h : CallOk w n f args (kEq d)) (q : Q d) : CallOk w n f args Q := h.mono fun _ e => e ▸ q

/-- names -/
theorem EV.name {x : Str} {pos : Pos} {d : D} {Q : D → Prop} (hd : (x == ("__debug__" : Str)) = false) (q : Q d) (h : ∀ env G s, Rd w env G κ ρ s → ∃ v, VarAt w env s.heap x v ∧ Rep s.heap G v d) : EV w n sc κ ρ (.Name x pos) Q :=
  ⟨fun A env G s hs b f R => (h env G s R).elim fun v p => wpAny_Name (wp_loadName R.inv R.st p.1 (.here R.inv p.2 q)) hd⟩
theorem EV.rd {x : Str} {pos : Pos} {e : Ent} {d : D} {Q : D → Prop} (hm : (x, e) ∈ ρ) (he : e.read = some d) (q : Q d) (hd : (x == ("__debug__" : Str)) = false) : EV w n sc κ ρ (.Name x pos) Q :=
  EV.name hd q fun _ _ _ R => R.var x e d hm he
theorem EV.var {x : Str} {pos : Pos} {d : D} {Q : D → Prop} (hm : (x, Ent.v (some d)) ∈ ρ) (q : Q d) (hd : (x == ("__debug__" : Str)) = false := by decide +kernel) : EV w n sc κ ρ (.Name x pos) Q := .rd hm rfl q hd
theorem EV.varL {x : Str} {pos : Pos} {xs : List D} {Q : D → Prop} (hm : (x, Ent.ml xs) ∈ ρ) (q : Q (.list xs)) (hd : (x == ("__debug__" : Str)) = false := by decide +kernel) : EV w n sc κ ρ (.Name x pos) Q := .rd hm rfl q hd
theorem EV.varO {x : Str} {pos : Pos} {a : Nat} {fs : List (Str × D)} {Q : D → Prop} (hm : (x, Ent.ob a fs) ∈ ρ) (q : Q (.inst fs)) (hd : (x == ("__debug__" : Str)) = false := by decide +kernel) : EV w n sc κ ρ (.Name x pos) Q := .rd hm rfl q hd
theorem EV.con {x : Str} {pos : Pos} {d : D} {Q : D → Prop} (hm : (x, d) ∈ κ) (q : Q d) (hd : (x == ("__debug__" : Str)) = false := by decide +kernel) : EV w n sc κ ρ (.Name x pos) Q :=
  EV.name hd q fun _ _ _ R => R.con x d hm

/-- constants -/
theorem EV.cInt {i : Int} {k : Nat} {pos : Pos} {Q : D → Prop} (q : Q (.int i)) : EV w n sc κ ρ (.Constant (.int i) k pos) Q :=
  ⟨fun _ _ _ _ _ _ _ R => wpAny_Constant_int (.now R.inv (.int ..) q _)⟩
theorem EV.cStr {x : Str} {k : Nat} {pos : Pos} {Q : D → Prop} (q : Q (.str x)) : EV w n sc κ ρ (.Constant (.str x) k pos) Q :=
  ⟨fun _ _ _ _ _ _ _ R => wpAny_Constant_str (.now R.inv (.str ..) q _)⟩
theorem EV.cBool {c : Bool} {k : Nat} {pos : Pos} {Q : D → Prop} (q : Q (.bool c)) : EV w n sc κ ρ (.Constant (.bool c) k pos) Q :=
  ⟨fun _ _ _ _ _ _ _ R => Constant_bool (.here R.inv (.bool _) q)⟩
theorem EV.cNone {k : Nat} {pos : Pos} {Q : D → Prop} (q : Q .none) : EV w n sc κ ρ (.Constant .none k pos) Q :=
  ⟨fun _ _ _ _ _ _ _ R => Constant_none (.here R.inv .none q)⟩

section
variable {A : Around} {env : Env} {G : Nat → Prop} {s : Shared} {e r : Expr} {f : Value → Value → Sem Value} {Q : D → Prop} {P : Value → Shared → Prop}
/-- an expression, then what goes on with its value -/
theorem EV.then (h : EV w n sc κ ρ e Q) (hs : env.scope = sc) (b : Bud A n) (hf : Frm A) (R : Rd w env G κ ρ s) (k : ∀ v s1 G1 d, Q d → Rep s1.heap G1 v d → Ext w s G s1 G1 → Rd w env G1 κ ρ s1 → P v s1) : wpAny (MM w) A (eval e env) P NoE s :=
  wpAny_mono (h.run A env G s hs b hf R) (fun v s1 p => p.elim fun G1 d q rr x => k v s1 G1 d q rr x (R.ext x)) fun _ _ x => x
/-- two operands -/
theorem EV.two (h : EV w n sc κ ρ e (kBin w n sc κ ρ r f Q)) (hs : env.scope = sc) (b : Bud A n) (hf : Frm A) (R : Rd w env G κ ρ s) (k : ∀ v s', Post w s G Q v s' → P v s') :
    wpAny (MM w) A (eval e env) (fun v1 s1 => wpAny (MM w) A (eval r env) (fun v2 s2 => wpAny (MM w) A (f v1 v2) P NoE s2) NoE s1) NoE s :=
  h.then hs b hf R fun _ _ _ _ h1 r1 x1 R1 => h1.then hs b hf R1 fun _ _ _ _ h2 r2 x2 R2 =>
    wpAny_mono (h2.run A _ _ _ _ b hf R2.inv R2.gz (x2.rep R1.gz r1) r2) (fun v s' p => k v s' (p.back (x1.trans x2))) fun _ _ x => x
end

/-- operators -/
theorem EV.bin {op : Operator} {l r : Expr} {pos : Pos} {Q : D → Prop} (h : EV w n sc κ ρ l (kBin w n sc κ ρ r (binaryOp op) Q)) : EV w n sc κ ρ (.BinOp l op r pos) Q :=
  ⟨fun _ _ _ _ hs b f R => wpAny_BinOp (h.two hs b f R fun _ _ p => p)⟩
theorem EV.cmp {op : CmpOp} {l r : Expr} {pos : Pos} {Q : D → Prop} (h : EV w n sc κ ρ l (kBin w n sc κ ρ r (compareOp op) Q))
    (hm : behindInMarks op r = false := by with_unfolding_all rfl) : EV w n sc κ ρ (.Compare l [op] [r] pos) Q :=
  ⟨fun _ _ _ _ hs b f R => wpAny_Compare1 (h.two hs b f R fun _ _ p => p) hm⟩
theorem EV.una {op : UnaryOp} {x : Expr} {pos : Pos} {Q : D → Prop} (h : EV w n sc κ ρ x (kOp1 w n (unaryOp op) Q)) : EV w n sc κ ρ (.UnaryOp op x pos) Q :=
  ⟨fun A _ _ _ hs b f R => UnaryOp_ (h.then hs b f R fun _ s1 G1 _ h1 r1 x1 R1 => wpAny_mono (h1.run A G1 s1 _ b f R1.inv R1.gz r1) (fun _ _ p => p.back x1) fun _ _ x => x)⟩
theorem PostB.goes {env : Env} {G : Nat → Prop} {s : Shared} {a b : Prop} {c : Bool} {s1 : Shared} (p : PostB w s G (kIte a b) c s1) (R : Rd w env G κ ρ s) {M : Bool → Prop}
    (h1 : a → ∀ G1, Ext w s G s1 G1 → Rd w env G1 κ ρ s1 → M true) (h2 : b → ∀ G1, Ext w s G s1 G1 → Rd w env G1 κ ρ s1 → M false) : M c :=
  p.elim fun G1 h x => Bool.casesOn (motive := fun c => kIte a b c → M c) c (fun h => h2 h G1 x (R.ext x)) (fun h => h1 h G1 x (R.ext x)) h
theorem EV.on {A : Around} {env : Env} {G G1 : Nat → Prop} {s s1 : Shared} {e : Expr} {Q : D → Prop} (h : EV w n sc κ ρ e Q) (hs : env.scope = sc) (b : Bud A n) (f : Frm A) (x : Ext w s G s1 G1) (R : Rd w env G1 κ ρ s1) : wpAny (MM w) A (eval e env) (Post w s G Q) NoE s1 :=
  wpAny_mono (h.run A env G1 s1 hs b f R) (fun _ _ p => p.back x) fun _ _ x => x
theorem TV.on {A : Around} {env : Env} {G G1 : Nat → Prop} {s s1 : Shared} {e : Expr} {Q : Bool → Prop} (h : TV w n sc κ ρ e Q) (hs : env.scope = sc) (b : Bud A n) (f : Frm A) (x : Ext w s G s1 G1) (R : Rd w env G1 κ ρ s1) : wpAny (MM w) A (isTrue e env (eval e env)) (PostB w s G Q) NoE s1 :=
  wpAny_mono (h.run A env G1 s1 hs b f R) (fun _ _ p => p.back x) fun _ _ x => x
theorem EV.ife {t b e : Expr} {pos : Pos} {Q : D → Prop} (h : TV w n sc κ ρ t (kIte (EV w n sc κ ρ b Q) (EV w n sc κ ρ e Q))) : EV w n sc κ ρ (.IfExp t b e pos) Q :=
  ⟨fun A env G s hs bd f R => IfExp_ (wpAny_mono (h.run A env G s hs bd f R) (fun c s1 p => p.goes R (M := kIte (wpAny (MM w) A (eval b env) (Post w s G Q) NoE s1) (wpAny (MM w) A (eval e env) (Post w s G Q) NoE s1)) (fun h _ x R => h.on hs bd f x R) fun h _ x R => h.on hs bd f x R) fun _ _ x => x)⟩
theorem Tru.then {A : Around} {G : Nat → Prop} {s : Shared} {v : Value} {d : D} {Q : Bool → Prop} (h : Tru w n d Q) (b : Bud A n) (f : Frm A) {s₀ : Shared} {G₀ : Nat → Prop} (x : Ext w s₀ G₀ s G) (z : Gz w G s) (r : Rep s.heap G v d) : wpAny (MM w) A (truthy v) (PostB w s₀ G₀ Q) NoE s :=
  wpAny_mono (h.run A G s v b f x.inv z r) (fun _ _ p => p.back x) fun _ _ x => x
theorem TV.val {e : Expr} {Q : Bool → Prop} (h : EV w n sc κ ρ e (kTru w n Q)) (he : ∀ env whole, isTrue e env whole = (do let v ← whole; standAt e.pos; holding [v] (truthy v)) := by intro _ _; rfl) : TV w n sc κ ρ e Q :=
  ⟨fun _ _ _ _ hs b f R => isTrue_plain (h.then hs b f R fun _ _ _ _ h1 r1 x1 R1 => h1.then b f x1 R1.gz r1) (he _ _)⟩
theorem TV.cmp {op : CmpOp} {l r : Expr} {pos : Pos} {Q : Bool → Prop} (h : EV w n sc κ ρ l (kBin w n sc κ ρ r (compareOp op) (kTru w n Q)))
    (hm : behindInMarks op r = false := by with_unfolding_all rfl) : TV w n sc κ ρ (.Compare l [op] [r] pos) Q :=
  ⟨fun _ _ _ _ hs b f R => wpAny_isTrue_Compare1 (h.two hs b f R fun _ _ ⟨_, _, h1, r1, x1⟩ => h1.then b f x1 (x1.gz R.inv R.gz) r1) hm⟩
theorem TV.andNil {pos : Pos} {Q : Bool → Prop} (q : Q true) : TV w n sc κ ρ (.BoolOp .And [] pos) Q := ⟨fun _ _ G _ _ _ _ R => isTrue_and_nil ⟨G, q, .refl R.inv⟩⟩
theorem TV.orNil {pos : Pos} {Q : Bool → Prop} (q : Q false) : TV w n sc κ ρ (.BoolOp .Or [] pos) Q := ⟨fun _ _ G _ _ _ _ R => isTrue_or_nil ⟨G, q, .refl R.inv⟩⟩
abbrev kAnd (w : Wd) (n : Nat) (sc : Scope) (κ : Env2) (ρ : Rho) (rest : List Expr) (pos : Pos) (Q : Bool → Prop) (c : Bool) : Prop := kIte (TV w n sc κ ρ (.BoolOp .And rest pos) Q) (Q false) c
abbrev kOr (w : Wd) (n : Nat) (sc : Scope) (κ : Env2) (ρ : Rho) (rest : List Expr) (pos : Pos) (Q : Bool → Prop) (c : Bool) : Prop := kIte (Q true) (TV w n sc κ ρ (.BoolOp .Or rest pos) Q) c
theorem TV.and {x : Expr} {rest : List Expr} {pos : Pos} {Q : Bool → Prop} (h : TV w n sc κ ρ x (kAnd w n sc κ ρ rest pos Q)) : TV w n sc κ ρ (.BoolOp .And (x :: rest) pos) Q := by
  constructor
  intro A env G s hs b f R
  refine isTrue_and (wpAny_mono (h.run A env G s hs b f R) (fun c s1 p => ?_) fun _ _ x => x)
  obtain ⟨G1, h1, x1⟩ := p
  cases c with
  | false => exact ⟨G1, h1, x1⟩
  | true => exact h1.on hs b f x1 (R.ext x1)
theorem TV.or {x : Expr} {rest : List Expr} {pos : Pos} {Q : Bool → Prop} (h : TV w n sc κ ρ x (kOr w n sc κ ρ rest pos Q)) : TV w n sc κ ρ (.BoolOp .Or (x :: rest) pos) Q := by
  constructor
  intro A env G s hs b f R
  refine isTrue_or (wpAny_mono (h.run A env G s hs b f R) (fun c s1 p => ?_) fun _ _ x => x)
  obtain ⟨G1, h1, x1⟩ := p
  cases c with
  | true => exact ⟨G1, h1, x1⟩
  | false => exact h1.on hs b f x1 (R.ext x1)

theorem EVs.nil {Q : List D → Prop} (q : Q []) : EVs w n sc κ ρ [] Q := ⟨fun _ _ G _ _ _ _ _ R => wpAny_items_nil ⟨G, [], q, .nil, .refl R.inv⟩⟩
theorem EVs.then {A : Around} {env : Env} {G : Nat → Prop} {s : Shared} {pos : Pos} {es : List Expr} {Q : List D → Prop} {P : List Value → Shared → Prop} (h : EVs w n sc κ ρ es Q) (hs : env.scope = sc) (b : Bud A n) (hf : Frm A) (R : Rd w env G κ ρ s)
    (k : ∀ vs s1 G1 ds, Q ds → RepL s1.heap G1 vs ds → Ext w s G s1 G1 → Rd w env G1 κ ρ s1 → P vs s1) : wpAny (MM w) A (spliced (backTo pos (starEach es env))) P NoE s :=
  wpAny_mono (h.run A env G s pos hs b hf R) (fun v s1 p => p.elim fun G1 d q rr x => k v s1 G1 d q rr x (R.ext x)) fun _ _ x => x
theorem EVs.cons {e : Expr} {es : List Expr} {Q : List D → Prop} (h : EV w n sc κ ρ e (kEVs w n sc κ ρ es Q))
    (he : ∀ env, starEach (e :: es) env = (false, eval e env) :: starEach es env := by intro _; rfl) : EVs w n sc κ ρ (e :: es) Q :=
  ⟨fun A env G s pos hs b f R => args_cons (h.then hs b f R fun _ s1 G1 d1 h1 r1 x1 R1 => h1.then hs b f R1
    fun _ _ G2 ds q r x2 _ => ⟨G2, d1 :: ds, q, .cons (x2.rep R1.gz r1) r, x1.trans x2⟩) (he env)⟩
end
end Mine
end

noncomputable section
--# Lb3
namespace Mine
open PySem PySem.W PyProof.Rows PySem.Calls

theorem beq_dec {α : Type} [BEq α] [LawfulBEq α] [DecidableEq α] (a b : α) : (a == b) = decide (a = b) := by
  by_cases h : a = b
  · subst h; simp
  · simp [h]
theorem bne_dec {α : Type} [BEq α] [LawfulBEq α] [DecidableEq α] (a b : α) : (a != b) = decide (a ≠ b) := by
  rw [bne, beq_dec]; by_cases h : a = b <;> simp [h]
section
variable {w : Wd} {n : Nat} {Q : D → Prop} {B : Bool → Prop} {a b : Int}

theorem Op2.intro {f : Value → Value → Sem Value} {a b : Int} (h : ∀ (A : Around) (G : Nat → Prop) (s : Shared) (t u : Tok), Bud A n → Frm A → Inv w s → wpAny (MM w) A (f (.int a t) (.int b u)) (Post w s G Q) NoE s) : Op2 w n f (.int a) (.int b) Q :=
  ⟨fun A G s v1 v2 bd f i z r1 r2 => r1.intE fun t => r2.intE fun u => h A G s t u bd f i⟩

theorem add_i (q : Q (.int (a + b))) : Op2 w n (binaryOp .Add) (.int a) (.int b) Q := .intro fun _ _ _ _ _ b f i => PyProof.Rows.add_int (Post.now i (.int ..) q _)
theorem sub_i (q : Q (.int (a - b))) : Op2 w n (binaryOp .Sub) (.int a) (.int b) Q := .intro fun _ _ _ _ _ b f i => PyProof.Rows.sub_int' (Post.now i (.int ..) q _)
theorem mul_i (hm : IntMulOk a b) (q : Q (.int (a * b))) : Op2 w n (binaryOp .Mult) (.int a) (.int b) Q := .intro fun _ _ _ _ _ b f i => PyProof.Rows.mul_int (Post.now i (.int ..) q _) hm
theorem fdiv_i (hb : b ≠ 0) (q : Q (.int (a.fdiv b))) : Op2 w n (binaryOp .FloorDiv) (.int a) (.int b) Q := .intro fun _ _ _ _ _ b f i => PyProof.Rows.floordiv_int hb (Post.now i (.int ..) q _) (.inr (f.room b i))
theorem fmod_i (hb : b ≠ 0) (q : Q (.int (a.fmod b))) : Op2 w n (binaryOp .Mod) (.int a) (.int b) Q := .intro fun _ _ _ _ _ b f i => PyProof.Rows.mod_int' hb (Post.now i (.int ..) q _)
theorem pow_i (hb : 0 ≤ b) (hs : (Builtin.Int.intBits a : Int) * b ≤ 2 ^ 27) (q : Q (.int (a ^ b.toNat))) : Op2 w n (binaryOp .Pow) (.int a) (.int b) Q := .intro fun _ _ _ _ _ b f i => PyProof.Rows.pow_int hb hs (Post.now i (.int ..) q _)
theorem shl_i (hb : 0 ≤ b) (hs : (Builtin.Int.intBits a : Int) + b ≤ 2 ^ 27) (q : Q (.int (a * 2 ^ b.toNat))) : Op2 w n (binaryOp .LShift) (.int a) (.int b) Q := .intro fun _ _ _ _ _ b f i => PyProof.Rows.lshift_int hb hs (Post.now i (.int ..) q _)
theorem shr_i (hb : 0 ≤ b) (q : Q (.int (a.fdiv (2 ^ b.toNat)))) : Op2 w n (binaryOp .RShift) (.int a) (.int b) Q := .intro fun _ _ _ _ _ b f i => PyProof.Rows.rshift_int hb (Post.now i (.int ..) q _)
theorem and_i (q : Q (.int (Builtin.bitAnd a b))) : Op2 w n (binaryOp .BitAnd) (.int a) (.int b) Q := .intro fun _ _ _ _ _ b f i => PyProof.Rows.and_int (Post.now i (.int ..) q _)
theorem or_i (q : Q (.int (Builtin.bitOr a b))) : Op2 w n (binaryOp .BitOr) (.int a) (.int b) Q := .intro fun _ _ _ _ _ b f i => PyProof.Rows.or_int (Post.now i (.int ..) q _)
theorem xor_i (q : Q (.int (Builtin.bitXor a b))) : Op2 w n (binaryOp .BitXor) (.int a) (.int b) Q := .intro fun _ _ _ _ _ b f i => PyProof.Rows.xor_int (Post.now i (.int ..) q _)
theorem iadd_i (q : Q (.int (a + b))) : Op2 w n (inplaceOp .Add) (.int a) (.int b) Q := .intro fun _ _ _ _ _ b f i => PyProof.Rows.iadd_int (Post.now i (.int ..) q _)
theorem isub_i (q : Q (.int (a - b))) : Op2 w n (inplaceOp .Sub) (.int a) (.int b) Q := .intro fun _ _ _ _ _ b f i => PyProof.Rows.isub_int (Post.now i (.int ..) q _)
theorem ishl_i (hb : 0 ≤ b) (hs : (Builtin.Int.intBits a : Int) + b ≤ 2 ^ 27) (q : Q (.int (a * 2 ^ b.toNat))) : Op2 w n (inplaceOp .LShift) (.int a) (.int b) Q := .intro fun _ _ _ _ _ b f i => PyProof.Rows.ilshift_int hb hs (Post.now i (.int ..) q _)
theorem ishr_i (hb : 0 ≤ b) (q : Q (.int (a.fdiv (2 ^ b.toNat)))) : Op2 w n (inplaceOp .RShift) (.int a) (.int b) Q := .intro fun _ _ _ _ _ b f i => PyProof.Rows.irshift_int hb (Post.now i (.int ..) q _)

theorem lt_i (q : Q (.bool (decide (a < b)))) : Op2 w n (compareOp .Lt) (.int a) (.int b) Q := .intro fun _ _ _ _ _ b f i => PyProof.Rows.lt_int (Post.here i (.bool ..) q)
theorem gt_i (q : Q (.bool (decide (b < a)))) : Op2 w n (compareOp .Gt) (.int a) (.int b) Q := .intro fun _ _ _ _ _ b f i => PyProof.Rows.gt_int (Post.here i (.bool ..) q)
theorem le_i (q : Q (.bool (decide (a ≤ b)))) : Op2 w n (compareOp .LtE) (.int a) (.int b) Q := .intro fun _ _ _ _ _ b f i => PyProof.Rows.le_int (Post.here i (.bool ..) q)
theorem ge_i (q : Q (.bool (decide (b ≤ a)))) : Op2 w n (compareOp .GtE) (.int a) (.int b) Q := .intro fun _ _ _ _ _ b f i => PyProof.Rows.ge_int (Post.here i (.bool ..) q)
theorem eq_i (q : Q (.bool (decide (a = b)))) : Op2 w n (compareOp .Eq) (.int a) (.int b) Q := .intro fun _ _ _ _ _ _ f i => PyProof.Rows.eq_int (Post.here i (.bool ..) (beq_dec a b ▸ q))
theorem ne_i (q : Q (.bool (decide (a ≠ b)))) : Op2 w n (compareOp .NotEq) (.int a) (.int b) Q := .intro fun _ _ _ _ _ _ f i => PyProof.Rows.ne_int (Post.here i (.bool ..) (bne_dec a b ▸ q))

theorem neg_i (q : Q (.int (-a))) : Op1 w n (unaryOp .USub) (.int a) Q := ⟨fun _ _ _ _ _ _ i _ r => r.intE fun _ => PyProof.Rows.neg_int (Post.now i (.int ..) q _)⟩
theorem inv_i (q : Q (.int (Builtin.bitNot a))) : Op1 w n (unaryOp .Invert) (.int a) Q := ⟨fun _ _ _ _ _ _ i _ r => r.intE fun _ => PyProof.Rows.invert_int (Post.now i (.int ..) q _)⟩

theorem PostB.here {w : Wd} {s : Shared} {G : Nat → Prop} {Q : Bool → Prop} {b : Bool} (i : Inv w s) (q : Q b) : PostB w s G Q b s := ⟨G, q, .refl i⟩
theorem tru_b {c : Bool} (q : B c) : Tru w n (.bool c) B := ⟨fun _ _ _ _ _ _ i _ r => r.boolE (wpAny_truthy_bool (.here i q))⟩
theorem tru_i (q : B (decide (a ≠ 0))) : Tru w n (.int a) B := ⟨fun _ _ _ _ _ _ i _ r => r.intE fun _ => PyProof.Rows.truthy_int (.here i (bne_dec a 0 ▸ q))⟩
-- texts
variable {x y : Str}
theorem Op2.introS {f : Value → Value → Sem Value} (h : ∀ (A : Around) (G : Nat → Prop) (s : Shared) (t u : Tok), Bud A n → Frm A → Inv w s → wpAny (MM w) A (f (.str x t) (.str y u)) (Post w s G Q) NoE s) : Op2 w n f (.str x) (.str y) Q :=
  ⟨fun A G s v1 v2 bd f i z r1 r2 => r1.strE fun t => r2.strE fun u => h A G s t u bd f i⟩
theorem add_s (hz : x.length + y.length ≤ sizeLine) (q : Q (.str (x ++ y))) : Op2 w n (binaryOp .Add) (.str x) (.str y) Q := .introS fun _ _ _ _ _ _ f i => PyProof.Rows.add_str (fun _ _ => Post.now i (.str ..) q _) hz
theorem eq_s (q : Q (.bool (decide (x = y)))) : Op2 w n (compareOp .Eq) (.str x) (.str y) Q := .introS fun _ _ _ _ _ _ f i => PyProof.Rows.eq_str (Post.here i (.bool ..) (beq_dec x y ▸ q))
theorem ne_s (q : Q (.bool (decide (x ≠ y)))) : Op2 w n (compareOp .NotEq) (.str x) (.str y) Q := .introS fun _ _ _ _ _ _ f i => PyProof.Rows.ne_str (Post.here i (.bool ..) (bne_dec x y ▸ q))
end
end Mine
end

noncomputable section
--# Lb4
namespace Mine
open PySem PySem.W PyProof.Rows PySem.Calls

section
variable {w : Wd} {n : Nat} {sc : Scope} {κ : Env2} {ρ : Rho}

/-- an item, or what else the brackets give -/
theorem EV.sub {value slice : Expr} {pos : Pos} {Q : D → Prop} (h : EV w n sc κ ρ value (kBin w n sc κ ρ slice (subscriptTail value slice) Q)) : EV w n sc κ ρ (.Subscript value slice pos) Q :=
  ⟨fun _ _ _ _ hs b f R => Subscript_ (h.two hs b f R fun _ _ p => p)⟩

theorem item_l {value slice : Expr} {ds : List D} {i : Int} {j : Nat} {d : D} {Q : D → Prop} (hi : 0 ≤ i) (hf : i < 2 ^ 63) (hd : ds[i.toNat]? = some d) (q : Q d)
    (hs : ∀ o i, subscripted slice false o i = operate [o, i] (getItem o i) := by intro _ _; rfl) : Op2 w n (subscriptTail value slice) (.list ds) (.int i) Q :=
  ⟨fun _ _ _ _ _ _ _ iv _ r1 r2 => r2.intE fun _ => r1.listE fun {_ vs} _ hl rs => (rs.get hd).elim fun _ p =>
    tail_any hl.typeIs slot_list_getitem.lookup (wpAny_getItem_list hl hi hf (List.getElem?_toArray.trans p.1) (Post.here iv p.2 q)) (hs _ _)⟩

/-- from the end: xs[-k] -/
theorem item_ln {value slice : Expr} {ds : List D} {i : Int} {d : D} {Q : D → Prop} (hi : i < 0) (hf : -(2 ^ 63) ≤ i) (hlen : -(ds.length : Int) ≤ i) (hd : ds[(ds.length + i).toNat]? = some d) (q : Q d)
    (hs : ∀ o i, subscripted slice false o i = operate [o, i] (getItem o i) := by intro _ _; rfl) : Op2 w n (subscriptTail value slice) (.list ds) (.int i) Q := by
  constructor
  intro A G s v1 v2 b f iv z r1 r2
  cases r2 using Rep.intE with | int t =>
  cases r1 using Rep.listE with | @list a vs ga hl rs =>
    obtain ⟨v, hv, r⟩ := rs.get hd
    have hln : vs.toArray.size = ds.length := rs.length
    have e : (i + (vs.toArray.size : Int)).toNat = (ds.length + i).toNat := by rw [hln, Int.add_comm]
    exact tail_any hl.typeIs slot_list_getitem.lookup (wpAny_getItem_list_neg (x := v) hl hi (by rw [hln]; exact hlen) hf (by rw [e]; exact List.getElem?_toArray.trans hv) (Post.here iv r q)) (hs _ _)

/-- a sign of a text -/
theorem item_s {value slice : Expr} {x : Str} {i : Int} {c : Nat} {Q : D → Prop} (hi : 0 ≤ i) (hf : i < 2 ^ 63) (hc : x.cps[i.toNat]? = some c) (q : Q (.str ⟨#[c]⟩))
    (hs : ∀ o i, subscripted slice false o i = operate [o, i] (getItem o i) := by intro _ _; rfl) : Op2 w n (subscriptTail value slice) (.str x) (.int i) Q := by
  constructor
  intro A G s v1 v2 b f iv z r1 r2
  cases r1 using Rep.strE with | str t =>
  cases r2 using Rep.intE with | int u =>
  refine tail_any (typeIs_str _ _ _) F.slot_str_getitem.lookup (getItem_str (c := c) ?_ ?_ ?_) (hs _ _)
  · rw [decide_eq_false (Int.not_lt.mpr (Int.le_trans (by decide) hi)), decide_eq_false (Int.not_le.mpr hf)]; rfl
  · have hlt : i < (x.length : Int) := (Int.toNat_lt hi).mp (Array.getElem?_eq_some_iff.mp hc).1
    have e : seqIndex? i x.length = some i.toNat := by
      unfold seqIndex?
      rw [if_neg (Int.not_lt.mpr hi), if_pos (by rw [decide_eq_true hi, decide_eq_true hlt]; rfl)]
    rw [e]; exact hc
  · exact Post.now iv (.str ..) q _

/-- a part of the brackets between colons -/
inductive PostP (w : Wd) (s : Shared) (G : Nat → Prop) (Q : Option Int → Prop) (v : Value) (s' : Shared) : Prop
  | mk (G' : Nat → Prop) (p : Option (Int × Tok)) (e : v = partValue p) (q : Q (p.map (·.1))) (x : Ext w s G s' G')
structure EP (w : Wd) (n : Nat) (sc : Scope) (κ : Env2) (ρ : Rho) (e : Option Expr) (Q : Option Int → Prop) : Prop where
  run : ∀ (A : Around) (env : Env) (G : Nat → Prop) (s : Shared), env.scope = sc → Bud A n → Frm A → Rd w env G κ ρ s → wpAny (MM w) A (evalPart e env) (PostP w s G Q) NoE s
theorem EP.non {Q : Option Int → Prop} (q : Q none) : EP w n sc κ ρ none Q := ⟨fun A env G s hs b f R => by
  rw [evalPart_none]; exact wpAny_pure ⟨G, none, rfl, q, .refl R.inv⟩⟩
inductive kInt (Q : Int → Prop) (d : D) : Prop
  | mk (i : Int) (e : d = .int i) (q : Q i)
abbrev kSome (Q : Option Int → Prop) (i : Int) : Prop := Q (some i)
theorem kInt.elim {Q : Int → Prop} {s : Shared} {G : Nat → Prop} {v : Value} {d : D} (h : kInt Q d) (r : Rep s.heap G v d) {C : Value → Prop} (k : ∀ i t, Q i → C (.int i t)) : C v := by
  obtain ⟨i, rfl, q⟩ := h
  exact r.intE fun t => k i t q
theorem EP.som {e : Expr} {Q : Option Int → Prop} (h : EV w n sc κ ρ e (kInt (kSome Q))) : EP w n sc κ ρ (some e) Q := ⟨fun A env G s hs b f R => by
  rw [evalPart_some]
  exact h.then hs b f R fun v s1 G1 d q r x _ => q.elim (C := (PostP w s G Q · s1)) r fun i t q => ⟨G1, some (i, t), rfl, q, x⟩⟩
abbrev kUp (w : Wd) (n : Nat) (sc : Scope) (κ : Env2) (ρ : Rho) (u : Option Expr) (Q : Option Int → Option Int → Prop) (lo : Option Int) : Prop := EP w n sc κ ρ u (Q lo)
theorem EP.then {A : Around} {env : Env} {G : Nat → Prop} {s : Shared} {e : Option Expr} {Q : Option Int → Prop} {P : Value → Shared → Prop} (h : EP w n sc κ ρ e Q) (hs : env.scope = sc) (b : Bud A n) (hf : Frm A) (R : Rd w env G κ ρ s)
    (k : ∀ p s1 G1, Q (p.map (·.1)) → Ext w s G s1 G1 → Rd w env G1 κ ρ s1 → P (partValue p) s1) : wpAny (MM w) A (evalPart e env) P NoE s :=
  wpAny_mono (h.run A env G s hs b hf R) (fun v s1 p => by obtain ⟨G1, p, rfl, q, x⟩ := p; exact k p s1 G1 q x (R.ext x)) fun _ _ x => x
theorem EP.two {A : Around} {env : Env} {G : Nat → Prop} {s : Shared} {e u : Option Expr} {Q : Option Int → Option Int → Prop} {P : Value → Value → Shared → Prop} (h : EP w n sc κ ρ e (kUp w n sc κ ρ u Q)) (hs : env.scope = sc) (b : Bud A n) (hf : Frm A) (R : Rd w env G κ ρ s)
    (k : ∀ p q s1 G1, Q (p.map (·.1)) (q.map (·.1)) → Ext w s G s1 G1 → Rd w env G1 κ ρ s1 → P (partValue p) (partValue q) s1) : wpAny (MM w) A (evalPart e env) (fun v1 s1 => wpAny (MM w) A (evalPart u env) (P v1) NoE s1) NoE s :=
  h.then hs b hf R fun _ _ _ h1 x1 R1 => h1.then hs b hf R1 fun _ _ _ q x2 R2 => k _ _ _ _ q (x1.trans x2) R2

theorem isPart_of (p : Option (Int × Tok)) : IsPart (partValue p) (p.map (·.1)) := by
  cases p with
  | none => exact .none
  | some q => exact .int ..

theorem sliceMade_is (x : Str) (t : Tok) (l u : Option (Int × Tok)) : sliceMade x t l u none = (if ((1 : Int) == 1 && (Builtin.Str.strSliceIndices (l.map (·.1)) (u.map (·.1)) 1 x.length).length == x.length) = true then Made.val (.str x t) else Made.str ⟨((Builtin.Str.strSliceIndices (l.map (·.1)) (u.map (·.1)) 1 x.length).filterMap (x.cps[·]?)).toArray⟩) := rfl

abbrev kTxt (Q : D → Prop) (x : Str) (lo hi : Option Int) : Prop := Q (.str (Txt.slice x lo hi))
inductive kSliS (w : Wd) (n : Nat) (sc : Scope) (κ : Env2) (ρ : Rho) (l u : Option Expr) (Q : D → Prop) (d : D) : Prop
  | mk (x : Str) (e : d = .str x) (hz : x.length ≤ sizeLine) (h : EP w n sc κ ρ l (kUp w n sc κ ρ u (kTxt Q x)))
/-- text[lo:hi] -/
theorem EV.sliS {id : Str} {ipos p pos : Pos} {lower upper : Option Expr} {Q : D → Prop}
    (h : EV w n sc κ ρ (.Name id ipos) (kSliS w n sc κ ρ lower upper Q)) :
    EV w n sc κ ρ (.Subscript (.Name id ipos) (.Slice lower upper none p) pos) Q := by
  constructor
  intro A env G s hs b f R
  refine wpAny_Subscript_str_slice (h.then hs b f R fun v1 s1 G1 d h r1 x1 R1 => ?_)
  obtain ⟨x, rfl, hx, h⟩ := h
  refine h.two hs b f R1 fun l u s3 G3 h3 x3 R3 => ?_
  cases r1 using Rep.strE with | str t =>
  refine ⟨x, t, l, u, rfl, rfl, rfl, ?_⟩
  have Y := fun t => (x1.trans x3).trans (Ext.heap (G := G3) R3.inv (h' := s3.heap.push { cls := .type "slice", data := .fields #[partValue l, partValue u, .none] }) (fun _ _ e => Heap.get?_push_of_some _ e) t)
  have hle := Nat.le_trans (Txt.slice_le x (l.map (·.1)) (u.map (·.1))) hx
  rw [sliceMade_is]
  unfold Txt.slice at hle
  unfold kTxt Txt.slice at h3
  split at h3 <;> rename_i hc
  · rw [if_pos hc]; exact ⟨G3, _, h3, .str .., Y _⟩
  · rw [if_neg hc] at hle ⊢; exact ⟨hle, G3, _, h3, .str .., Y _⟩

noncomputable def pickD (ds : List D) (lo hi st : Option Int) : List D :=
  (sliceRange (sliceBounds lo hi st ds.length).1 (sliceBounds lo hi st ds.length).2.1 (sliceBounds lo hi st ds.length).2.2).filterMap (ds[·]?)
theorem RepL.pick {h : Heap} {G : Nat → Prop} {vs : List Value} {ds : List D} (r : RepL h G vs ds) : ∀ l : List Nat, RepL h G (l.filterMap (vs[·]?)) (l.filterMap (ds[·]?))
  | [] => .nil
  | i :: l => by
    cases e : ds[i]? with
    | none =>
      have : vs[i]? = none := by
        have := List.getElem?_eq_none_iff.mp e
        exact List.getElem?_eq_none_iff.mpr (by rw [r.length]; exact this)
      rw [List.filterMap_cons_none (by simpa using this), List.filterMap_cons_none (by simpa using e)]
      exact r.pick l
    | some d =>
      obtain ⟨v, hv, q⟩ := r.get e
      rw [List.filterMap_cons_some (by simpa using hv), List.filterMap_cons_some (by simpa using e)]
      exact .cons q (r.pick l)
theorem slicePick_toList (vs : List Value) (lo hi st : Option Int) : (slicePick vs.toArray lo hi st) = ((sliceRange (sliceBounds lo hi st vs.length).1 (sliceBounds lo hi st vs.length).2.1 (sliceBounds lo hi st vs.length).2.2).filterMap (vs[·]?)).toArray := by
  unfold slicePick
  simp

/-- a new list behind one more new thing -/
theorem new_list2 {s s3 : Shared} {G G3 : Nat → Prop} {Q : D → Prop} {S : Obj} {out : List Value} {ds : List D} {a : Nat} (i : Inv w s3) (z : Gz w G3 s3) (X : Ext w s G s3 G3) (r : RepL s3.heap G3 out ds) (q : Q (.list ds)) (ha : a = (s3.heap.push S).objs.size) :
    Post w s G Q (.ref a) { s3 with heap := (s3.heap.push S).push { cls := .type "list", data := .seq out.toArray } } := by
  subst ha
  have k : ∀ b o, s3.heap.get? b = some o → ((s3.heap.push S).push { cls := .type "list", data := .seq out.toArray }).get? b = some o := fun b o e => Heap.get?_push_of_some _ (Heap.get?_push_of_some _ e)
  have g := Heap.get?_push_size (s3.heap.push S) (o := { cls := .type "list", data := .seq out.toArray }) rfl
  have hn : s3.heap.get? (s3.heap.push S).objs.size = none := by
    cases e : s3.heap.get? (s3.heap.push S).objs.size with
    | none => rfl
    | some o =>
      have h := Heap.lt_size e
      rw [Heap.size_push] at h
      exact absurd (Nat.lt_of_succ_lt h) (Nat.lt_irrefl _)
  have Y := Ext.plus (G := G3) i k s3.toks hn g
  exact ⟨_, _, q, .list (.inr rfl) ⟨_, g, rfl, 0, rfl⟩ (Y.repL z r), X.trans Y⟩
theorem RepL.picked {h : Heap} {G : Nat → Prop} {vs : List Value} {ds : List D} (r : RepL h G vs ds) (lo hi st : Option Int) :
    RepL h G ((sliceRange (sliceBounds lo hi st vs.length).1 (sliceBounds lo hi st vs.length).2.1 (sliceBounds lo hi st vs.length).2.2).filterMap (vs[·]?)) (pickD ds lo hi st) := by
  rw [r.length]; exact r.pick _
abbrev kPick (Q : D → Prop) (ds : List D) (lo hi : Option Int) : Prop := Q (.list (pickD ds lo hi none))
inductive kSliL (w : Wd) (n : Nat) (sc : Scope) (κ : Env2) (ρ : Rho) (l u : Option Expr) (Q : D → Prop) (d : D) : Prop
  | mk (ds : List D) (e : d = .list ds) (hz : ds.length ≤ sizeLine) (h : EP w n sc κ ρ l (kUp w n sc κ ρ u (kPick Q ds)))
/-- items[lo:hi] -/
theorem EV.sliL {id : Str} {ipos p pos : Pos} {lower upper : Option Expr} {Q : D → Prop} (h : EV w n sc κ ρ (.Name id ipos) (kSliL w n sc κ ρ lower upper Q)) :
    EV w n sc κ ρ (.Subscript (.Name id ipos) (.Slice lower upper none p) pos) Q := by
  constructor
  intro A env G s hs b f R
  refine wpAny_Subscript_list_slice (h.then hs b f R fun v1 s1 G1 d h r1 x1 R1 => ?_)
  obtain ⟨ds, rfl, hx, h⟩ := h
  refine h.two hs b f R1 fun l u s3 G3 h3 x3 R3 => ?_
  cases x3.rep R1.gz r1 using Rep.listE with | @list a vs ga hl rs =>
  refine ⟨a, vs.toArray, l.map (·.1), u.map (·.1), rfl, hl, Nat.le_trans (Nat.le_of_eq rs.length) hx, isPart_of l, isPart_of u, ?_⟩
  rw [slicePick_toList]
  exact new_list2 R3.inv R3.gz (x1.trans x3) (rs.picked ..) h3 (Heap.size_push ..).symm

inductive kStC (Q : D → Prop) (ds : List D) (lo hi : Option Int) (d : D) : Prop
  | mk (c : Int) (e : d = .int c) (hc : c ≠ 0) (q : Q (.list (pickD ds lo hi (some c))))
abbrev kSt (w : Wd) (n : Nat) (sc : Scope) (κ : Env2) (ρ : Rho) (st : Expr) (Q : D → Prop) (ds : List D) (lo hi : Option Int) : Prop := EV w n sc κ ρ st (kStC Q ds lo hi)
inductive kSliLs (w : Wd) (n : Nat) (sc : Scope) (κ : Env2) (ρ : Rho) (l u : Option Expr) (st : Expr) (Q : D → Prop) (d : D) : Prop
  | mk (ds : List D) (e : d = .list ds) (hz : ds.length ≤ sizeLine) (h : EP w n sc κ ρ l (kUp w n sc κ ρ u (kSt w n sc κ ρ st Q ds)))
/-- items[lo::st] -/
theorem EV.sliLs {id : Str} {ipos p pos : Pos} {lower upper : Option Expr} {st : Expr} {Q : D → Prop} (h : EV w n sc κ ρ (.Name id ipos) (kSliLs w n sc κ ρ lower upper st Q)) :
    EV w n sc κ ρ (.Subscript (.Name id ipos) (.Slice lower upper (some st) p) pos) Q := by
  constructor
  intro A env G s hs b f R
  refine wpAny_Subscript_Slice_step (T := "list") list_getitem_lookup (h.then hs b f R fun v1 s1 G1 d h r1 x1 R1 => ?_) (fun _ _ => rfl)
  obtain ⟨ds, rfl, hx, h⟩ := h
  refine wpAny_Slice (h.two hs b f R1 fun l u s3 G3 h3 x3 R3 => ?_)
  rw [evalPart_some]
  refine h3.then hs b f R3 fun v4 s4 G4 d4 h4 r4 x4 R4 => ?_
  obtain ⟨c, rfl, hc, q⟩ := h4
  cases r4 using Rep.intE with | int t =>
  cases x4.rep R3.gz (x3.rep R1.gz r1) using Rep.listE with | @list a vs ga hl rs =>
  refine ⟨(hl.push _).typeIs, wpAny_getItem_list_slice (st := some c) (hl.push _) (Heap.IsSliceOf.new ..) (isPart_of l) (isPart_of u) (.int ..) (fun e => hc (Option.some.inj e)) ?_ (Nat.le_trans (Nat.le_of_eq rs.length) hx)⟩
  rw [slicePick_toList]
  exact new_list2 R4.inv R4.gz ((x1.trans x3).trans x4) (rs.picked ..) q rfl

/-- a plain list stands there -/
inductive LstAt (h : Heap) (a : Nat) (vs : List Value) : Prop
  | mk (o : Obj) (k : Nat) (ho : h.get? a = some o) (hc : o.cls = .type "list") (hp : o.dict = none ∧ o.slots = #[]) (hd : o.data = .seq vs.toArray k)
theorem LstAt.isList {h : Heap} {a : Nat} {vs : List Value} (x : LstAt h a vs) : h.IsList a vs.toArray := let ⟨o, k, ho, hc, _, hd⟩ := x; ⟨o, ho, hc, k, hd⟩
theorem LstAt.at {h h' : Heap} {a : Nat} {vs : List Value} (x : LstAt h a vs) (e : ∀ o, h.get? a = some o → h'.get? a = some o) : LstAt h' a vs := let ⟨o, k, ho, hc, hp, hd⟩ := x; ⟨o, k, e o ho, hc, hp, hd⟩
theorem LstAt.look {h : Heap} {a : Nat} {vs : List Value} (x : LstAt h a vs) : ∃ o, h.get? a = some o := let ⟨o, _, ho, _, _, _⟩ := x; ⟨o, ho⟩
/-- a new list that none but this value bears: its address, its items -/
inductive PostN (w : Wd) (s : Shared) (G : Nat → Prop) (Q : List D → Prop) (v : Value) (s' : Shared) : Prop
  | mk (G' : Nat → Prop) (a : Nat) (vs : List Value) (ds : List D) (e : v = .ref a) (q : Q ds) (ha : s.heap.get? a = none) (hn : ¬ G' a) (hl : LstAt s'.heap a vs) (r : RepL s'.heap G' vs ds) (x : Ext w s G s' G')
/-- an expression that makes a new list -/
structure EN (w : Wd) (n : Nat) (sc : Scope) (κ : Env2) (ρ : Rho) (e : Expr) (Q : List D → Prop) : Prop where
  run : ∀ (A : Around) (env : Env) (G : Nat → Prop) (s : Shared), env.scope = sc → Bud A n → Frm A → Rd w env G κ ρ s → wpAny (MM w) A (eval e env) (PostN w s G Q) NoE s

theorem Adv.plusG {w : Wd} {W G G' : Nat → Prop} {s s' : Shared} (x : Adv w W s G s' G') {a : Nat} (ha : s.heap.get? a = none) {o : Obj} (ho : s'.heap.get? a = some o) : Adv w W s G s' (Plus G' a) :=
  ⟨x.there, x.keep, x.tab, x.gens, x.os, x.inv, fun b h => .inl (x.sub b h), fun b h => by
    rcases h with h | rfl
    · exact x.new b h
    · exact .inr ⟨ha, o, ho⟩⟩
theorem PostN.elim {w : Wd} {s s' : Shared} {G : Nat → Prop} {Q : List D → Prop} {v : Value} {C : Value → Prop} (p : PostN w s G Q v s') (k : ∀ G' a vs ds, Q ds → s.heap.get? a = none → ¬ G' a → LstAt s'.heap a vs → RepL s'.heap G' vs ds → Ext w s G s' G' → C (.ref a)) : C v := by
  obtain ⟨G', a, vs, ds, rfl, q, ha, hg, hl, r, x⟩ := p
  exact k G' a vs ds q ha hg hl r x
abbrev kList (Q : D → Prop) (ds : List D) : Prop := Q (.list ds)
theorem PostN.post {w : Wd} {s s' : Shared} {G : Nat → Prop} {Q : D → Prop} {v : Value} (p : PostN w s G (kList Q) v s') : Post w s G Q v s' :=
  p.elim (C := (Post w s G Q · s')) fun G' a vs ds q ha _ hl r x => hl.look.elim fun _ ho => ⟨Plus G' a, .list ds, q, .list (.inr rfl) hl.isList (r.mono (fun _ _ _ e => e) fun _ h => .inl h), x.plusG ha ho⟩
theorem EV.ofN {e : Expr} {Q : D → Prop} (h : EN w n sc κ ρ e (kList Q)) : EV w n sc κ ρ e Q :=
  ⟨fun A env G s hs b f R => wpAny_mono (h.run A env G s hs b f R) (fun _ _ p => p.post) fun _ _ x => x⟩

theorem no_size {G : Nat → Prop} {w : Wd} {s : Shared} (z : Gz w G s) : ¬ G s.heap.objs.size := fun h => by
  obtain ⟨_, o, e⟩ := z _ h
  rw [size_none] at e; cases e
/-- a list pushed: new -/
theorem PostN.push {w : Wd} {s : Shared} {G : Nat → Prop} {Q : List D → Prop} {vs : List Value} {ds : List D} (i : Inv w s) (z : Gz w G s) (r : RepL s.heap G vs ds) (q : Q ds) (t : Nat) :
    PostN w s G Q (.ref s.heap.objs.size) { s with heap := s.heap.push { cls := .type "list", data := .seq vs.toArray }, toks := t } :=
  ⟨G, _, vs, ds, rfl, q, size_none _, no_size z, ⟨_, 0, Heap.get?_push_size _ rfl, rfl, ⟨rfl, rfl⟩, rfl⟩, r.mono (fun b o _ e => Heap.get?_push_of_some _ e) fun _ h => h, .heap i (fun b o e => Heap.get?_push_of_some _ e) t⟩
theorem PostN.back {w : Wd} {s s₁ : Shared} {G G₁ : Nat → Prop} {Q : List D → Prop} {v : Value} {s' : Shared} (x : Ext w s G s₁ G₁) (p : PostN w s₁ G₁ Q v s') : PostN w s G Q v s' :=
  p.elim (C := (PostN w s G Q · s')) fun G' a vs ds q ha hg hl r y => ⟨G', a, vs, ds, rfl, q, x.nay ha, hg, hl, r, x.trans y⟩

abbrev kLen (Q : List D → Prop) (ds : List D) : Prop := ds.length ≤ sizeLine ∧ Q ds
abbrev kTup (Q : D → Prop) (ds : List D) : Prop := ds.length ≤ sizeLine ∧ Q (.tup ds)
/-- [..] -/
theorem EN.disp {es : List Expr} {pos : Pos} {Q : List D → Prop} (h : EVs w n sc κ ρ es (kLen Q)) : EN w n sc κ ρ (.List es pos) Q :=
  ⟨fun A env G s hs b f R => wpAny_List (h.then hs b f R fun _ _ _ _ q r x R1 => ⟨Nat.le_trans (Nat.le_of_eq r.length) q.1, PostN.back x (PostN.push x.inv R1.gz r q.2 _)⟩)⟩
/-- (..) -/
theorem EV.tup {es : List Expr} {k : Nat} {pos : Pos} {Q : D → Prop} (h : EVs w n sc κ ρ es (kTup Q)) : EV w n sc κ ρ (.Tuple es k pos) Q :=
  ⟨fun A env G s hs b f R => wpAny_Tuple (h.then hs b f R fun vs s1 G1 _ q r x R1 => ⟨Nat.le_trans (Nat.le_of_eq r.length) q.1,
    have Y := Ext.plus (G := G1) x.inv (h' := s1.heap.push { cls := .type "tuple", data := .seq vs.toArray }) (fun b o e => Heap.get?_push_of_some _ e) s1.toks (size_none _) (Heap.get?_push_size _ rfl)
    ⟨_, _, q.2, .tup (.inr rfl) ⟨_, Heap.get?_push_size _ rfl, rfl, 0, rfl⟩ (Y.repL R1.gz r), x.trans Y⟩⟩)⟩
end
end Mine
end

noncomputable section
--# Lb5
namespace Mine
open PySem PySem.W PyProof.Rows PySem.Calls

/-- what stands behind the value that is called can be looked at -/
structure KeepOk (w : Wd) (f : D) : Prop where
  run : ∀ (s : Shared) (G : Nat → Prop) (vf : Value), Inv w s → Rep s.heap G vf f → ∃ k, Looks (MM w) s.heap (keeperOf vf) k
theorem KeepOk.bi {w : Wd} {id : String} : KeepOk w (.bi id) := ⟨fun _ _ _ _ r => r.biE ⟨.machine, Looks.of_pure rfl⟩⟩
theorem KeepOk.ty {w : Wd} {id : String} : KeepOk w (.ty id) := ⟨fun _ _ _ _ r => r.tyE ⟨.machine, Looks.of_pure rfl⟩⟩
noncomputable def isFnK (a : Nat) : Prop := ∀ P, ((KK P).lookup a).any (fun o => match o.data with | .func _ => true | _ => false) = true
theorem KeepOk.fn {w : Wd} {a : Nat} (h : isFnK a) : KeepOk w (.fn a) := ⟨fun s G vf i r => by
  cases r using Rep.fnE with | fn =>
  have q := h w.w.params
  cases e : (KK w.w.params).lookup a with
  | none => rw [e] at q; cases q
  | some o =>
    rw [e] at q
    refine ⟨.frame, ?_⟩
    have ho := i.K a o e
    intro A Q E s' k hq
    show wpAny _ _ (load a >>= _) _ _ _
    refine wpAny_bind (wpAny_load (k _ _ ho) ?_)
    simp only [Option.any_some] at q
    split at q
    · rename_i fd hd
      rw [hd]
      exact wpAny_pure hq
    · cases q⟩

section
variable {w : Wd} {n : Nat} {sc : Scope} {κ : Env2} {ρ : Rho}

theorem wp_ite {M : Model} {α : Type} {A : Around} {s : Shared} {c : Prop} [Decidable c] {a b : Sem α} {Q : α → Shared → Prop} {E : Value → Shared → Prop} (h1 : wpAny M A a Q E s) (h2 : wpAny M A b Q E s) : wpAny M A (if c then a else b) Q E s := by
  split
  · exact h1
  · exact h2
theorem callWith_gen {A : Around} {s : Shared} {pos : Pos} {f : Value} {first : List Value} {args : List (Bool × Sem Value)} {Q : Value → Shared → Prop} {E : Value → Shared → Prop} (hplain : args.any (·.1) = false)
    (h : wpAny (MM w) A (evalArgs f true args []) (fun a s₁ => (∃ k, Looks (MM w) s₁.heap (keeperOf f) k) ∧ wpAny (MM w) A (call f (first ++ a.pos) a.kw) Q E s₁) E s) :
    wpAny (MM w) A (callWith pos f first args []) Q E s := by
  unfold callWith
  refine wpAny_bind (wpAny_holding (wpAny_mono h (fun a s₁ h₁ => wpAny_bind (wpAny_standAt ?_)) fun _ _ x => x))
  obtain ⟨⟨k, hk⟩, h₁⟩ := h₁
  have tail : ∀ {t : Sem Value}, wpAny (MM w) A t Q E s₁ → wpAny (MM w) A (t >>= fun r => holding [r] point >>= fun _ => pure r) Q E s₁ :=
    fun ht => wpAny_bind (wpAny_mono ht (fun r s₂ hr => wpAny_bind (wpAny_holding (wpAny_point (wpAny_pure hr)))) fun _ _ x => x)
  refine wpAny_bind (hk.here ?_)
  rw [hplain]
  have mk : ∀ {m : Value}, wpAny (MM w) A (callMarked m f (first ++ a.pos) a.kw) Q E s₁ := by intro m; unfold callMarked; exact wpAny_keep h₁
  cases k
  · exact wp_ite (tail h₁) (tail mk)
  · exact wp_ite (tail h₁) (tail mk)
  · exact tail h₁
  · exact tail (wpAny_operating h₁)

theorem starEach_plain (es : List Expr) (env : Env) (pos : Pos) (h : ∀ env, (starEach es env).any (·.1) = false) : (backTo pos (starEach es env)).any (·.1) = false := by
  unfold backTo
  rw [List.any_map]
  exact h env

theorem evalArgs_gen {A : Around} {s : Shared} {f : Value} {args : List (Bool × Sem Value)} {Q : Args → Shared → Prop} {E : Value → Shared → Prop} (hplain : args.any (·.1) = false)
    (h : wpAny (MM w) A (spliced args) (fun vs s' => Q ⟨vs, []⟩ s') E s) : wpAny (MM w) A (evalArgs f true args []) Q E s := by
  cases args with
  | nil =>
    unfold evalArgs
    show wpAny _ A (spliced [] >>= _) Q E s
    refine wpAny_bind (wpAny_mono h (fun vs s' h' => ?_) fun _ _ x => x)
    refine wpAny_holding ?_
    exact wpAny_bind (wpAny_pure (wpAny_bind (wpAny_pure (wpAny_pure h'))))
  | cons p rest =>
    obtain ⟨c, x⟩ := p
    exact Bool.casesOn (motive := fun c => (((c, x) :: rest).any (·.1)) = false → wpAny (MM w) A (spliced ((c, x) :: rest)) (fun vs s' => Q ⟨vs, []⟩ s') E s → wpAny (MM w) A (evalArgs f true ((c, x) :: rest) []) Q E s) c (fun _ h => evalArgs_plain h) (fun e => absurd e Bool.noConfusion) hplain h

abbrev kArgs (w : Wd) (n : Nat) (f : D) (Q : D → Prop) (ds : List D) : Prop := CallOk w n f ds Q
abbrev kCall (w : Wd) (n : Nat) (sc : Scope) (κ : Env2) (ρ : Rho) (es : List Expr) (Q : D → Prop) (f : D) : Prop := KeepOk w f ∧ EVs w n sc κ ρ es (kArgs w n f Q)
/-- f(..) -/
theorem EV.call {func : Expr} {es : List Expr} {pos : Pos} {Q : D → Prop} (h : EV w n sc κ ρ func (kCall w n sc κ ρ es Q))
    (he : ∀ env, eval (.Call func es [] pos) env = (do callWith pos (← eval func env) [] (backTo pos (starEach es env)) (backToKw pos (keywordEach [] env))) := by intro _; rfl)
    (hst : ∀ env, (starEach es env).any (·.1) = false := by intro _; rfl) : EV w n sc κ ρ (.Call func es [] pos) Q :=
  ⟨fun A env _ _ hs b f R => Call_ (h.then hs b f R fun _ _ _ _ h1 r1 x1 R1 => callWith_gen (starEach_plain es env pos hst) (evalArgs_gen (starEach_plain es env pos hst) (h1.2.then hs b f R1 fun vs s2 G2 _ h2 r2 x2 R2 =>
    ⟨h1.1.run s2 G2 _ x2.inv (x2.rep R1.gz r1), wpAny_mono (h2.run A G2 s2 _ vs b f x2.inv R2.gz (x2.rep R1.gz r1) r2) (fun _ _ p => p.back (x1.trans x2)) fun _ _ x => x⟩))) (he env)⟩
end
end Mine
end

noncomputable section
--# Lb6
namespace Mine
open PySem PySem.W PyProof.Rows PySem.Calls

noncomputable def dints (ns : List Int) : List D := ns.map .int
noncomputable def dstrs (ns : List Str) : List D := ns.map .str
theorem RepL.ints {h : Heap} {G : Nat → Prop} {vs : List Value} {ns : List Int} (r : RepL h G vs (dints ns)) : IntsAre vs ns :=
  List.rec (motive := fun ns => ∀ {vs : List Value}, RepL h G vs (dints ns) → IntsAre vs ns) (fun r => r.nilE .nil) (fun _ _ ih _ r => r.consE fun r rs => r.intE fun _ => .cons _ _ (ih rs)) ns r
theorem RepL.ofInts {h : Heap} {G : Nat → Prop} {vs : List Value} {ns : List Int} (r : IntsAre vs ns) : RepL h G vs (dints ns) :=
  IntsAre.rec (motive := fun vs ns _ => RepL h G vs (dints ns)) .nil (fun i t _ _ _ r => .cons (.int i t) r) r
theorem RepL.strs {h : Heap} {G : Nat → Prop} {vs : List Value} {ns : List Str} (r : RepL h G vs (dstrs ns)) : StrsAre vs ns :=
  List.rec (motive := fun ns => ∀ {vs : List Value}, RepL h G vs (dstrs ns) → StrsAre vs ns) (fun r => r.nilE .nil) (fun _ _ ih _ r => r.consE fun r rs => r.strE fun _ => .cons _ _ (ih rs)) ns r

section
variable {w : Wd} {n : Nat} {Q : D → Prop}
theorem Post.heap {w : Wd} {s : Shared} {G : Nat → Prop} {Q : D → Prop} {v : Value} {d : D} (i : Inv w s) {h' : Heap} (k : ∀ b o, s.heap.get? b = some o → h'.get? b = some o) (t : Nat) (r : Rep h' G v d) (q : Q d) : Post w s G Q v { s with heap := h', toks := t } :=
  ⟨G, d, q, r, .heap i k t⟩

/-- a call of a builtin with one argument -/
theorem CallOk.bi1 {id : String} {d : D} (h : ∀ (A : Around) (G : Nat → Prop) (s : Shared) (v : Value), Bud A n → Inv w s → Rep s.heap G v d → wpAny (MM w) A (call (.builtin id) [v]) (Post w s G Q) NoE s) : CallOk w n (.bi id) [d] Q :=
  ⟨fun A G s _ _ b _ i _ rf rs => rf.biE (rs.oneE fun r => h A G s _ b i r)⟩
theorem CallOk.bi2 {id : String} {d e : D} (h : ∀ (A : Around) (G : Nat → Prop) (s : Shared) (v u : Value), Bud A n → Frm A → Inv w s → Rep s.heap G v d → Rep s.heap G u e → wpAny (MM w) A (call (.builtin id) [v, u]) (Post w s G Q) NoE s) : CallOk w n (.bi id) [d, e] Q :=
  ⟨fun A G s _ _ b f i _ rf rs => rf.biE (rs.twoE fun r q => h A G s _ _ b f i r q)⟩
theorem CallOk.bi1l {id : String} {ds : List D} (h : ∀ (A : Around) (G : Nat → Prop) (s : Shared) (a : Nat) (vs : List Value), Bud A n → Inv w s → s.heap.IsList a vs.toArray → RepL s.heap G vs ds → wpAny (MM w) A (call (.builtin id) [.ref a]) (Post w s G Q) NoE s) : CallOk w n (.bi id) [.list ds] Q :=
  .bi1 fun A G s _ b i r => r.listE fun _ hl rl => h A G s _ _ b i hl rl

theorem lt64 {k : Nat} (h : k ≤ sizeLine) : (k : Int) < 2 ^ 63 := Int.lt_of_le_of_lt (Int.ofNat_le.mpr h) (by decide)
theorem len_s {x : Str} (hx : x.length ≤ sizeLine) (q : Q (.int x.length)) : CallOk w n (.bi "len") [.str x] Q :=
  .bi1 fun _ _ _ _ _ i r => r.strE fun _ => PyProof.Rows.len_str (Int.not_le.mpr (lt64 hx)) (Post.now i (.int ..) q _)
theorem len_l {ds : List D} (hx : ds.length ≤ sizeLine) (q : Q (.int ds.length)) : CallOk w n (.bi "len") [.list ds] Q :=
  .bi1l fun _ _ _ _ vs _ i hl rl => PyProof.Rows.len_list hl (lt64 (rl.length ▸ hx : vs.length ≤ sizeLine)) (Post.now (d := .int vs.length) i (.int ..) (rl.length ▸ q) _)
theorem len_t {ds : List D} (hx : ds.length ≤ sizeLine) (q : Q (.int ds.length)) : CallOk w n (.bi "len") [.tup ds] Q :=
  .bi1 fun _ _ _ _ _ i r => r.tupE fun {_ vs} _ hl rl => PyProof.Rows.len_tuple hl (lt64 (rl.length ▸ hx : vs.length ≤ sizeLine)) (Post.now (d := .int vs.length) i (.int ..) (rl.length ▸ q) _)

theorem sum_l {ns : List Int} (q : Q (.int ns.sum)) : CallOk w n (.bi "sum") [.list (dints ns)] Q := .bi1l fun A G s a vs b i hl rl => by
  have hi := rl.ints
  obtain ⟨xs, e⟩ := hi.allInts.items
  rw [e] at hl
  refine PySem.sum_intListG b.hnd hl fun h' tk t' hk => ?_
  have : preSum (numAt xs) xs.size = ns.sum := by
    rw [preSum_eq, List.take_of_length_le (by simp), ← nums_intItems, ← e]
    exact congrArg List.sum hi.numsOf
  rw [this]
  exact Post.heap i hk _ (.int ..) q

theorem ints_items {vs : List Value} {ns : List Int} (hi : IntsAre vs ns) (hne : 0 < ns.length) : ∃ xs : Array (Int × Tok), vs.toArray = intItems xs ∧ 0 < xs.size ∧ numAt xs (xs.size - 1) ∈ ns ∧ (∀ j, j ≤ xs.size - 1 → numAt xs j ∈ ns) ∧ ∀ a ∈ ns, ∃ j, j ≤ xs.size - 1 ∧ a = numAt xs j := by
  obtain ⟨xs, e⟩ := hi.allInts.items
  have hns : ns = xs.toList.map (·.1) := by rw [← hi.numsOf, ← nums_intItems, ← e]
  have hl : ns.length = xs.size := by rw [hns, List.length_map, Array.length_toList]
  have hsz : 0 < xs.size := hl ▸ hne
  have hm : ∀ j, j ≤ xs.size - 1 → numAt xs j ∈ ns := fun j hj => by
    rw [numAt_eq, ← hns]; exact getD_mem (hl ▸ Nat.lt_of_le_pred hsz hj)
  refine ⟨xs, e, hsz, hm _ (Nat.le_refl _), hm, fun a ha => ?_⟩
  rw [hns] at ha
  obtain ⟨j, hj, rfl⟩ := mem_getD ha
  rw [← hns, hl] at hj
  exact ⟨j, Nat.le_pred_of_lt hj, numAt_eq xs j ▸ rfl⟩
theorem max_l {ns : List Int} (hne : 0 < ns.length) (q : ∀ m, m ∈ ns → (∀ a ∈ ns, a ≤ m) → Q (.int m)) : CallOk w n (.bi "max") [.list (dints ns)] Q := .bi1l fun A G s a vs b i hl rl => by
  obtain ⟨xs, e, hsz, h0, hm, ha⟩ := ints_items rl.ints hne
  rw [e] at hl
  refine max_intList b.hnd hl hsz fun v h' tk hv hk => ?_
  obtain ⟨t, rfl⟩ := intItems_at hv
  obtain ⟨h1, h2⟩ := argBest_gt (numAt xs) (xs.size - 1)
  exact Post.heap i hk _ (.int ..) (q _ (hm _ h1) fun a m => (ha a m).elim fun j p => p.2 ▸ h2 j p.1)
theorem min_l {ns : List Int} (hne : 0 < ns.length) (q : ∀ m, m ∈ ns → (∀ a ∈ ns, m ≤ a) → Q (.int m)) : CallOk w n (.bi "min") [.list (dints ns)] Q := .bi1l fun A G s a vs b i hl rl => by
  obtain ⟨xs, e, hsz, h0, hm, ha⟩ := ints_items rl.ints hne
  rw [e] at hl
  refine min_intList b.hnd hl hsz fun v h' tk hv hk => ?_
  obtain ⟨t, rfl⟩ := intItems_at hv
  obtain ⟨h1, h2⟩ := argBest_lt (numAt xs) (xs.size - 1)
  exact Post.heap i hk _ (.int ..) (q _ (hm _ h1) fun a m => (ha a m).elim fun j p => p.2 ▸ h2 j p.1)
theorem max_2 {a b : Int} (q : Q (.int (if b > a then b else a))) : CallOk w n (.bi "max") [.int a, .int b] Q := .bi2 fun A G s v u bd _ i r1 r2 => r1.intE fun _ => r2.intE fun _ => by
  refine max_two_ints bd.hnd fun h' tk hk => ?_
  by_cases h : b > a
  · rw [if_pos h] at q ⊢; exact Post.heap i hk _ (.int ..) q
  · rw [if_neg h] at q ⊢; exact Post.heap i hk _ (.int ..) q

/-- a new thing at the heap's end, and more kept -/
theorem Post.newAt {w : Wd} {s : Shared} {G : Nat → Prop} {Q : D → Prop} {d : D} (i : Inv w s) {h' : Heap} (k : ∀ b o, s.heap.get? b = some o → h'.get? b = some o) (t : Nat) {a : Nat} (ha : s.heap.get? a = none) {o : Obj} (ho : h'.get? a = some o)
    (r : Rep h' (Plus G a) (.ref a) d) (q : Q d) : Post w s G Q (.ref a) { s with heap := h', toks := t } :=
  ⟨_, d, q, r, .plus i k t ha ho⟩
theorem none_of_keep {h h' : Heap} (k : ∀ b o, h.get? b = some o → h'.get? b = some o) {a : Nat} (e : h'.get? a = none) : h.get? a = none := by
  cases q : h.get? a with
  | none => rfl
  | some o => rw [k a o q] at e; cases e

theorem tuple_l {ds : List D} (hz : ds.length ≤ sizeLine) (q : Q (.tup ds)) : CallOk w n (.ty "tuple") [.list ds] Q := ⟨fun A G s vf vs bd f i z rf rs => rf.tyE <| rs.oneE fun r => r.listE fun {a vs} ga hl rl => by
  refine call_tuple_list hl (fun h' hk => ?_) (Nat.le_trans (Nat.le_of_eq rl.length) hz)
  have k : ∀ b o, s.heap.get? b = some o → (h'.push { cls := .type "tuple", data := .seq vs.toArray }).get? b = some o := fun b o e => Heap.get?_push_of_some _ (hk b o e)
  exact Post.newAt i k s.toks (none_of_keep hk (size_none h')) (Heap.get?_push_size _ rfl) (.tup (.inr rfl) ⟨_, Heap.get?_push_size _ rfl, rfl, 0, rfl⟩ (rl.mono (fun b o _ e => k b o e) fun _ h => .inl h)) q⟩

theorem none_past (h : Heap) : h.get? (h.objs.size + 1) = none := by
  cases e : h.get? (h.objs.size + 1) with
  | none => rfl
  | some o => exact absurd (Nat.lt_of_succ_lt (Heap.lt_size e)) (Nat.lt_irrefl _)
theorem sorted_l {ns : List Int} (h64 : ns.length < 64) (q : ∀ ms : List Int, ms.Perm ns → ms.Pairwise (· ≤ ·) → Q (.list (dints ms))) : CallOk w n (.bi "sorted") [.list (dints ns)] Q := .bi1l fun A G s a vs b i hl rl => by
  have hi := rl.ints
  refine sorted_ints hl hi (hi.length ▸ h64) fun out ns' a1 a2 a3 => ?_
  obtain ⟨e, he⟩ := sortedAll_at s.heap vs out
  have hL : (sortedAll s.heap vs out).IsList (s.heap.objs.size + 1) out.toList.toArray := ⟨_, he, rfl, e, rfl⟩
  exact Post.newAt (h' := sortedAll s.heap vs out) i (fun _ _ => sortedAll_old) s.toks (none_past _) he (.list (.inr rfl) hL (.ofInts a1)) (q ns' a2 a3)

theorem divmod_2 {a b : Int} (hb : b ≠ 0) (q : Q (.tup [.int (a.fdiv b), .int (a.fmod b)])) : CallOk w n (.bi "divmod") [.int a, .int b] Q := .bi2 fun A G s v u bd f i r1 r2 => r1.intE fun _ => r2.intE fun _ => by
  refine divmod_int hb ?_ (.inr (f.room bd i))
  exact Post.newAt i (fun _ _ e => Heap.get?_push_of_some _ e) _ (size_none _) (Heap.get?_push_size _ rfl) (.tup (vs := [.int _ _, .int _ _]) (.inr rfl) ⟨_, Heap.get?_push_size _ rfl, rfl, 0, rfl⟩ (.cons (.int ..) (.cons (.int ..) .nil))) q

-- lists put together
/-- the sum of two lists, a new one -/
theorem add_lists {A : Around} {s : Shared} {a1 a2 : Nat} {vs1 vs2 : List Value} {P : Value → Shared → Prop} (h1 : s.heap.IsList a1 vs1.toArray) (h2 : s.heap.IsList a2 vs2.toArray) (hz : vs1.length + vs2.length ≤ sizeLine)
    (q : P (.ref s.heap.objs.size) { s with heap := s.heap.push { cls := .type "list", data := .seq (vs1 ++ vs2).toArray } }) : wpAny (MM w) A (binaryOp .Add (.ref a1) (.ref a2)) P NoE s := by
  obtain ⟨⟨cls, dd, data, sl⟩, ho, hc, k, hd⟩ := h1
  obtain ⟨⟨cls2, dd2, data2, sl2⟩, ho2, hc2, k2, hd2⟩ := h2
  simp only at hc hd hc2 hd2
  subst hc hd hc2 hd2
  refine concat_meets ⟨_, ho, rfl⟩ ⟨_, ho2, rfl⟩ noFill_list_add seq_list_add PySem.F.slot_list_add PySem.F.entry_list_add (PySem.F.args_list_add_2 _ _) (list_addW a1 a2 vs1.toArray vs2.toArray k k2 dd dd2 sl sl2 hz) ⟨ho, ho2, ?_⟩
  rw [List.append_toArray]
  exact q
theorem add_l {xs ys : List D} (hz : xs.length + ys.length ≤ sizeLine) (q : Q (.list (xs ++ ys))) : Op2 w n (binaryOp .Add) (.list xs) (.list ys) Q := ⟨fun A G s v1 v2 bd f i z r1 r2 => r1.listE fun _ h1 l1 => r2.listE fun _ h2 l2 =>
  add_lists h1 h2 (l1.length.symm ▸ l2.length.symm ▸ hz) (Post.newAt i (fun _ _ e => Heap.get?_push_of_some _ e) s.toks (size_none _) (Heap.get?_push_size _ rfl) (.list (.inr rfl) ⟨_, Heap.get?_push_size _ rfl, rfl, 0, rfl⟩ ((l1.append l2).mono (fun _ _ _ e => Heap.get?_push_of_some _ e) fun _ h => .inl h)) q)⟩
end
end Mine
end

noncomputable section
--# Lb7
namespace Mine
open PySem PySem.W PyProof.Rows PySem.Calls

/-- an operation that makes a new list -/
structure Op2N (w : Wd) (n : Nat) (f : Value → Value → Sem Value) (d1 d2 : D) (Q : List D → Prop) : Prop where
  run : ∀ (A : Around) (G : Nat → Prop) (s : Shared) (v1 v2 : Value), Bud A n → Frm A → Inv w s → Gz w G s → Rep s.heap G v1 d1 → Rep s.heap G v2 d2 → wpAny (MM w) A (f v1 v2) (PostN w s G Q) NoE s

section
variable {w : Wd} {n : Nat} {sc : Scope} {κ : Env2} {ρ : Rho}

abbrev kOp2N (w : Wd) (n : Nat) (f : Value → Value → Sem Value) (d1 : D) (Q : List D → Prop) (d2 : D) : Prop := Op2N w n f d1 d2 Q
abbrev kBinN (w : Wd) (n : Nat) (sc : Scope) (κ : Env2) (ρ : Rho) (r : Expr) (f : Value → Value → Sem Value) (Q : List D → Prop) (d1 : D) : Prop := EV w n sc κ ρ r (kOp2N w n f d1 Q)
theorem EN.bin {op : Operator} {l r : Expr} {pos : Pos} {Q : List D → Prop} (h : EV w n sc κ ρ l (kBinN w n sc κ ρ r (binaryOp op) Q)) : EN w n sc κ ρ (.BinOp l op r pos) Q :=
  ⟨fun A env G s hs b f R => wpAny_BinOp (h.then hs b f R fun _ _ _ _ h1 r1 x1 R1 => h1.then hs b f R1 fun _ _ _ _ h2 r2 x2 R2 =>
    wpAny_mono (h2.run A _ _ _ _ b f R2.inv R2.gz (x2.rep R1.gz r1) r2) (fun _ _ p => p.back (x1.trans x2)) fun _ _ x => x)⟩

theorem add_lN {xs ys : List D} {Q : List D → Prop} (hz : xs.length + ys.length ≤ sizeLine) (q : Q (xs ++ ys)) : Op2N w n (binaryOp .Add) (.list xs) (.list ys) Q := ⟨fun A G s v1 v2 bd f i z r1 r2 => r1.listE fun _ h1 l1 => r2.listE fun _ h2 l2 =>
  add_lists h1 h2 (l1.length.symm ▸ l2.length.symm ▸ hz) (PostN.push i z (l1.append l2) q s.toks)⟩

theorem RepL.rep {h : Heap} {G : Nat → Prop} {v : Value} {d : D} (r : Rep h G v d) : ∀ k : Nat, RepL h G (List.replicate k v) (List.replicate k d)
  | 0 => .nil
  | k + 1 => .cons r (RepL.rep r k)
theorem foldl_one (v : Value) : ∀ (k : Nat) (acc : List Value), (List.replicate k #[v]).foldl (fun x1 x2 => x1 ++ x2) acc.toArray = (acc ++ List.replicate k v).toArray
  | 0, acc => by simp
  | k + 1, acc => by
    rw [List.replicate_succ, List.foldl_cons]
    have : acc.toArray ++ #[v] = (acc ++ [v]).toArray := by simp
    rw [this, foldl_one v k (acc ++ [v])]
    simp [List.replicate_succ]
theorem mul_lN {d : D} {x : Int} {Q : List D → Prop} (hx : x ≤ sizeLine) (hlo : -(2 ^ 63) ≤ x) (q : Q (List.replicate x.toNat d)) : Op2N w n (binaryOp .Mult) (.list [d]) (.int x) Q := by
  constructor
  intro A G s v1 v2 bd f i z r1 r2
  cases r2 using Rep.intE with | int u =>
  cases r1 using Rep.listE with | @list a1 vs1 g1 h1 l1 =>
  cases l1 using RepL.oneE with | @one v r =>
  obtain ⟨⟨cls, dd, data, sl⟩, ho, hc, k, hd⟩ := id h1
  simp only at hc hd
  subst hc hd
  have hsl : sizeLine = 16777216 := by decide
  refine wpAny_binaryOp_repeat_ref (T := "list") (U := "int") (by decide) ⟨_, ho, rfl⟩ (fun s' => typeIs_int s' x u) noFill_list_mul F.fills_int_mul F.slot_int_rmul repeat_list F.slot_int_index.lookup
    (call_meets F.slot_int_rmul (typeIs_int s x u) F.entry_int_rmul (F.args_int_rmul_2 _ _) (lm_int_rmul_list_any x u a1 #[v] k dd sl)
      ⟨ho, rfl, ⟨_, ho, rfl⟩, call_meets F.slot_list_mul ⟨_, ho, rfl⟩ F.entry_list_mul (F.args_list_mul_2 _ _)
        (lm_list_mul_any a1 #[v] k dd sl x u (by simp [Builtin.List.listFitsIndex]; omega) (by simp; omega) (by simp [Builtin.List.listTooLong, hsl]; omega))
        ⟨ho, ?_⟩⟩)
  have e : List.foldl (fun x1 x2 => x1 ++ x2) #[] (List.replicate (if (#[v] : Array Value).isEmpty = true then 0 else x.toNat) #[v]) = (List.replicate x.toNat v).toArray := by
    have := foldl_one v x.toNat []
    simpa using this
  rw [e]
  exact PostN.push i z (RepL.rep r x.toNat) q s.toks

/-- a sign repeated -/
theorem mul_s {x : Str} {k : Int} {Q : D → Prop} (hk : k ≤ 1000) (hlo : -(2 ^ 63) ≤ k) (hx : x.length ≤ 1000) (q : Q (.str (Txt.mul x k))) : Op2 w n (binaryOp .Mult) (.str x) (.int k) Q :=
  ⟨fun A G s v1 v2 bd f i z r1 r2 => r1.strE fun _ => r2.intE fun _ => SB.mul (mulOk_of 1000 1000 hx hk hlo (by decide) (by decide)) fun t' tk => Post.now i (.str ..) q _⟩

theorem notIn_s {x y : Str} {Q : D → Prop} (q : Q (.bool (!(!(Builtin.Str.occurrences x y 0 x.length 1).isEmpty)))) : Op2 w n (compareOp .NotIn) (.str y) (.str x) Q :=
  .introS fun _ _ _ _ _ _ f i => PyProof.Rows.notIn_str (Post.here i (.bool ..) q)

noncomputable def isI (k : Int) : Value → Bool
  | .int i _ => i == k
  | _ => false
theorem any_isI (k : Int) {vs : List Value} {ns : List Int} (r : IntsAre vs ns) : vs.any (isI k) = decide (k ∈ ns) :=
  IntsAre.rec (motive := fun vs ns _ => vs.any (isI k) = decide (k ∈ ns)) (by simp) (fun i t vs ns r ih => by
    rw [List.any_cons, ih, Bool.eq_iff_iff, Bool.or_eq_true, decide_eq_true_eq, decide_eq_true_eq, List.mem_cons, show isI k (.int i t) = (i == k) from rfl, beq_iff_eq, eq_comm]) r
theorem eqAt_isI {A : Around} {s : Shared} (k : Int) (t : Tok) {vs : List Value} {ns : List Int} (r : IntsAre vs ns) : ∀ y ∈ vs, SeqAt.EqAt A s y (.int k t) (isI k y) :=
  IntsAre.rec (motive := fun vs _ _ => ∀ y ∈ vs, SeqAt.EqAt A s y (.int k t) (isI k y)) (fun _ h => absurd h List.not_mem_nil) (fun i u vs ns r ih y hy => (List.mem_cons.mp hy).elim (fun e => e ▸ (MeetsSeq.EqGives.int i k u t).at _ _) (ih y)) r

theorem mem_isI {k : Int} {ns : List Int} {Q : D → Prop} {vs : List Value} (hi : IntsAre vs ns) (q : Q (.bool (decide (k ∉ ns)))) : Q (.bool (!vs.toArray.any (isI k))) := by
  rw [← Array.any_toList, show vs.toArray.toList = vs from rfl, any_isI k hi, ← decide_not]; exact q
theorem notIn_l {k : Int} {ns : List Int} {Q : D → Prop} (q : Q (.bool (decide (k ∉ ns)))) : Op2 w n (compareOp .NotIn) (.int k) (.list (dints ns)) Q :=
  ⟨fun A G s v1 v2 bd f i z r1 r2 => r1.intE fun t => r2.listE fun _ h l => SeqAt.notIn_listAt (isI k) h (fun y hy => eqAt_isI k t l.ints y (List.mem_toArray.mp hy)) (Post.here i (.bool _) (mem_isI l.ints q))⟩
theorem notIn_t {k : Int} {ns : List Int} {Q : D → Prop} (q : Q (.bool (decide (k ∉ ns)))) : Op2 w n (compareOp .NotIn) (.int k) (.tup (dints ns)) Q :=
  ⟨fun A G s v1 v2 bd f i z r1 r2 => r1.intE fun t => r2.tupE fun _ h l => SeqAt.notIn_tupleAt (isI k) h (fun y hy => eqAt_isI k t l.ints y (List.mem_toArray.mp hy)) (Post.here i (.bool _) (mem_isI l.ints q))⟩

theorem ints_getElem {vs : List Value} {ns : List Int} (r : IntsAre vs ns) : ∀ j (h : j < vs.length), ∃ t, vs[j] = .int (ns.getD j 0) t :=
  IntsAre.rec (motive := fun vs ns _ => ∀ j (h : j < vs.length), ∃ t, vs[j] = .int (ns.getD j 0) t) (fun _ h => absurd h (Nat.not_lt_zero _)) (fun i t vs ns r ih j => Nat.casesOn j (fun _ => ⟨t, rfl⟩) fun j h => ih j (Nat.lt_of_succ_lt_succ h)) r
theorem all_eq_ints (xs ys : List Int) (h : xs.length = ys.length) : ((List.range xs.length).all fun j => xs.getD j 0 == ys.getD j 0) = decide (xs = ys) := by
  rw [Bool.eq_iff_iff, List.all_eq_true, decide_eq_true_eq]
  refine ⟨fun q => List.ext_getElem h fun j h1 h2 => ?_, fun e j _ => e ▸ beq_self_eq_true _⟩
  have := beq_iff_eq.mp (q j (List.mem_range.mpr h1))
  rw [List.getD_eq_getElem?_getD, List.getD_eq_getElem?_getD, List.getElem?_eq_getElem h1, List.getElem?_eq_getElem h2] at this
  exact this
theorem eq_lists {xs ys : List Int} {A : Around} {s : Shared} {E : Value → Shared → Prop} {Q : Value → Shared → Prop} {a b : Nat} {vs us : List Value} (ha : s.heap.IsList a vs.toArray) (hb : s.heap.IsList b us.toArray) (r1 : IntsAre vs xs) (r2 : IntsAre us ys) (hu : A.units < cLine)
    (q : Q (.bool (decide (xs = ys))) s) : wpAny (MM w) A (compareOp .Eq (.ref a) (.ref b)) Q E s := by
  by_cases hl : xs.length = ys.length
  · refine SeqAt.eq_listAt (e := fun j => xs.getD j 0 == ys.getD j 0) ha hb (r1.length.trans (hl.trans r2.length.symm)) hu (fun j h1 h2 => ?_) ?_
    · obtain ⟨t, e1⟩ := ints_getElem r1 j h1
      obtain ⟨u, e2⟩ := ints_getElem r2 j h2
      have e1' : vs.toArray[j] = .int (xs.getD j 0) t := e1
      have e2' : us.toArray[j] = .int (ys.getD j 0) u := e2
      rw [e1', e2']
      exact (MeetsSeq.EqGives.int _ _ t u).at _ _
    · rw [show vs.toArray.size = xs.length from r1.length, all_eq_ints xs ys hl]; exact q
  · refine SeqAt.eq_list_lengthsAt ha hb (bne_iff_ne.mpr fun e => hl (r1.length.symm.trans (Eq.trans e r2.length))) hu ?_
    rw [show decide (xs = ys) = false from decide_eq_false fun e => hl (by rw [e])] at q
    exact q
theorem eq_li {xs ys : List Int} {Q : D → Prop} (q : Q (.bool (decide (xs = ys)))) : Op2 w n (compareOp .Eq) (.list (dints xs)) (.list (dints ys)) Q :=
  ⟨fun A G s v1 v2 bd f i z r1 r2 => r1.listE fun _ h1 l1 => r2.listE fun _ h2 l2 => eq_lists h1 h2 l1.ints l2.ints (Nat.lt_of_lt_of_le (Nat.lt_of_lt_of_le (Nat.lt_add_of_pos_right (by decide)) (Nat.add_le_add_right (Nat.le_add_right _ (20 * n)) 60)) bd.uni) (Post.here i (.bool _) q)⟩

/-- x is y, of truth values and nothings -/
theorem is_b {c d : Bool} {Q : D → Prop} (q : Q (.bool (c == d))) : Op2 w n (compareOp .Is) (.bool c) (.bool d) Q := ⟨fun A G s v1 v2 bd f i z r1 r2 => r1.boolE (r2.boolE (PyProof.Rows.is_bool (Post.here i (.bool _) q)))⟩
theorem isNot_b {c d : Bool} {Q : D → Prop} (q : Q (.bool (c != d))) : Op2 w n (compareOp .IsNot) (.bool c) (.bool d) Q := ⟨fun A G s v1 v2 bd f i z r1 r2 => r1.boolE (r2.boolE (PyProof.Rows.isnot_bool (Post.here i (.bool _) q)))⟩
noncomputable def D.isNone : D → Bool
  | .none => true
  | _ => false
theorem is_n {d : D} {b : Bool} {Q : D → Prop} (hd : d.isNone = b) (q : Q (.bool b)) : Op2 w n (compareOp .Is) d .none Q := ⟨fun A G s v1 v2 bd f i z r1 r2 => r2.noneE <| by
  subst hd
  refine PySem.is_none (Post.here i (.bool _) ?_)
  exact Rep.casesOn (motive_1 := fun v d _ => Q (.bool d.isNone) → Q (.bool (v == .none))) r1 id (fun _ => id) (fun _ _ => id) (fun _ _ => id) (fun _ => id) (fun _ => id) (fun _ => id) (fun _ => id) (fun _ _ _ => id) (fun _ _ _ => id) (fun _ _ _ _ _ => id) q⟩
end
end Mine
end

noncomputable section
--# Lb8
namespace Mine
open PySem PySem.W PyProof.Rows PySem.Calls

/-- the method's name on the datum is that function, with the datum ahead of its arguments -/
structure MethIs (w : Wd) (d : D) (name : Str) (f : D) : Prop where
  run : ∀ (A : Around) (G : Nat → Prop) (s : Shared) (v : Value) (pl : Sem Bool) (Q : Value × List Value → Shared → Prop) (E : Value → Shared → Prop), Inv w s → Gz w G s → Rep s.heap G v d →
    (∀ vf, Rep s.heap G vf f → Q (vf, [v]) s) → wpAny (MM w) A (getMethod v name pl) Q E s

section
variable {w : Wd} {n : Nat} {sc : Scope} {κ : Env2} {ρ : Rho}

abbrev kArgs1 (w : Wd) (n : Nat) (f d : D) (Q : D → Prop) (ds : List D) : Prop := CallOk w n f (d :: ds) Q
inductive kMeth (w : Wd) (n : Nat) (sc : Scope) (κ : Env2) (ρ : Rho) (name : Str) (es : List Expr) (Q : D → Prop) (d : D) : Prop
  | mk (f : D) (hm : MethIs w d name f) (hk : KeepOk w f) (h : EVs w n sc κ ρ es (kArgs1 w n f d Q))
/-- o.name(..) -/
theorem EV.meth {o : Expr} {name : Str} {apos pos : Pos} {es : List Expr} {Q : D → Prop} (h : EV w n sc κ ρ o (kMeth w n sc κ ρ name es Q))
    (he : ∀ env, ∃ pl, eval (.Call (.Attribute o name apos) es [] pos) env = (do
      let ov ← eval o env
      standAt apos.atName
      let (f, first) ← holding [ov] (getMethod ov name pl)
      callWith pos f first (backTo pos (starEach es env)) []) := by intro _; exact ⟨_, rfl⟩)
    (hst : ∀ env, (starEach es env).any (·.1) = false := by intro _; rfl) : EV w n sc κ ρ (.Call (.Attribute o name apos) es [] pos) Q := by
  constructor
  intro A env G s hs b f R
  obtain ⟨pl, he⟩ := he env
  refine MethodCall_ (pl := pl) (h.then hs b f R fun vo s1 G1 d h r1 x1 R1 => ?_) he
  obtain ⟨fd, hm, hk, h1⟩ := h
  refine hm.run A G1 s1 vo pl _ _ R1.inv R1.gz r1 fun vf rf => ?_
  exact callWith_gen (starEach_plain es env pos hst) (evalArgs_gen (starEach_plain es env pos hst) (h1.then hs b f R1 fun vs s2 G2 _ h2 r2 x2 R2 => 
    ⟨hk.run s2 G2 vf x2.inv (x2.rep R1.gz rf), wpAny_mono (h2.run A G2 s2 vf (vo :: vs) b f x2.inv R2.gz (x2.rep R1.gz rf) (.cons (x2.rep R1.gz r1) r2)) (fun _ _ p => p.back (x1.trans x2)) fun _ _ x => x⟩))

theorem meth_bits {a : Int} : MethIs w (.int a) "bit_length" (.bi "int.bit_length") := ⟨fun A G s v pl Q E i z r q => by
  cases r using Rep.intE with | int => exact getMethod_int_bit_length (q _ (.bi _))⟩
theorem meth_str {x : Str} {name : Str} {id : String} (slot : Slot "str" name id) (hty : typeOf (.builtin id) = pure (.type "method_descriptor")) : MethIs w (.str x) name (.bi id) := ⟨fun A G s v pl Q E i z r q => by
  cases r using Rep.strE with | str => exact getMethod_builtin (typeIs_str _ _ _) PySem.F.plainAttrs_str slot hty (fun _ e => nomatch e) (q _ (.bi _))⟩
theorem meth_join {x : Str} : MethIs w (.str x) "join" (.bi "str.join") := meth_str PySem.F.slot_str_join PySem.F.type_str_join
theorem meth_split {x : Str} : MethIs w (.str x) "split" (.bi "str.split") := meth_str PySem.F.slot_str_split PySem.F.type_str_split

theorem bits_ok {a : Int} {Q : D → Prop} (q : Q (.int (Builtin.Int.intBits a))) : CallOk w n (.bi "int.bit_length") [.int a] Q := .bi1 fun _ _ _ _ _ i r => r.intE fun _ => call_int_bit_length (Post.now i (.int ..) q _)
theorem join_ok {x : Str} {ys : List Str} {Q : D → Prop} (hz : (ys.map (·.length)).sum + ys.length * x.length ≤ 16777216) (q : Q (.str (Txt.join x ys))) : CallOk w n (.bi "str.join") [.str x, .list (dstrs ys)] Q :=
  .bi2 fun _ _ _ _ _ _ _ i r1 r2 => r1.strE fun _ => r2.listE fun _ h l => PyProof.Rows.join_list h l.strs hz fun t' k => Post.now i (.str ..) q _
theorem split_ok {x y : Str} {Q : D → Prop} (h1 : (decide (x.length < y.length) || decide (Builtin.Str.strKind x < Builtin.Str.strKind y)) = false) (hy : (y.length == 0) = false) (hf : (Builtin.Str.occurrences x y 0 x.length (x.length + 1)).isEmpty = false)
    (hz : x.length ≤ sizeLine) (hz2 : (Builtin.Str.partsBetween x (Builtin.Str.occurrences x y 0 x.length (x.length + 1)) y.length).length ≤ sizeLine)
    (q : Q (.list (dstrs (Builtin.Str.partsBetween x (Builtin.Str.occurrences x y 0 x.length (x.length + 1)) y.length)))) : CallOk w n (.bi "str.split") [.str x, .str y] Q := .bi2 fun _ _ s _ _ _ _ i r1 r2 => r1.strE fun t => r2.strE fun u => by
  refine call_meets PySem.F.slot_str_split (typeIs_str _ _ _) PySem.F.entry_str_split (PySem.F.args_str_split_2 _ _) (meets_str_split_sep x y t u h1 hy hf hz hz2) ?_
  rw [strsFrom_eq]
  exact Post.newAt i (fun _ _ e => Heap.get?_push_of_some _ e) _ (size_none _) (Heap.get?_push_size _ rfl) (.list (.inr rfl) ⟨_, Heap.get?_push_size _ rfl, rfl, _, rfl⟩ (numb _ _)) q
where
  numb {h : Heap} {G : Nat → Prop} : ∀ (ys : List Str) (k : Nat), RepL h G (strValues (numbered k ys)) (dstrs ys)
    | [], _ => .nil
    | y :: ys, k => .cons (.str y k) (numb ys (k + 1))
end
end Mine
end

noncomputable section
--# Lb9
namespace Mine
open PySem PySem.W PyProof.Rows PySem.Calls

/-- the frame's own place for the name holds the value -/
inductive SlotAt (env : Env) (h : Heap) (W : Nat → Prop) (x : Str) (v : Value) : Prop
  | loc {m : Str → Option Value} : env.kindOf x = some .local → h.Ns env.locals m → m x = some v → SlotAt env h W x v
  | cel {c : Nat} : env.kindOf x = some .cell → (x == ("__classdict__" : Str)) = false → env.cells.lookup x = some c → W c → h.IsCell c (some v) → SlotAt env h W x v
inductive DeclAt (env : Env) (h : Heap) (W : Nat → Prop) (x : Str) : Prop
  | loc : env.kindOf x = some .local → DeclAt env h W x
  | cel {c : Nat} {v₀ : Option Value} : env.kindOf x = some .cell → (x == ("__classdict__" : Str)) = false → env.cells.lookup x = some c → W c → h.IsCell c v₀ → DeclAt env h W x
/-- a name that the frame does not store: one of the def around, or the top's -/
inductive ConAt (w : Wd) (env : Env) (h : Heap) (W : Nat → Prop) (x : Str) (v : Value) : Prop
  | fre {c : Nat} : (env.kindOf x = some .cell ∨ env.kindOf x = some .free) → (x == ("__classdict__" : Str)) = false → env.cells.lookup x = some c → Own w c → ¬ W c → h.IsCell c (some v) → ConAt w env h W x v
  | glo : env.kindOf x = some .globalImplicit → GlobIs x v → ConAt w env h W x v

inductive LstIs (h : Heap) (F : Nat → Prop) (a : Nat) (xs : List D) : Prop
  | mk (vs : List Value) (l : LstAt h a vs) (r : RepL h F vs xs)
structure MlAt (env : Env) (h : Heap) (F W : Nat → Prop) (a : Nat) (x : Str) (xs : List D) : Prop where
  slot : SlotAt env h W x (.ref a)
  own : W a
  imm : ∀ d ∈ xs, d.imm = true
  lst : LstIs h F a xs
inductive ObIs (env : Env) (h : Heap) (F W : Nat → Prop) (a : Nat) (fs : List (Str × D)) : Prop
  | mk (da : Nat) (m : Str → Option Value) (wd : W da) (hne : da ≠ env.locals) (ho : h.get? a = some (instObj 146 da)) (hn : h.Ns1 da m) (r : RepF h F m fs)
structure ObAt (env : Env) (h : Heap) (F W : Nat → Prop) (x : Str) (a : Nat) (fs : List (Str × D)) : Prop where
  slot : SlotAt env h W x (.ref a)
  own : W a
  obj : ObIs env h F W a fs
inductive VAt (env : Env) (h : Heap) (F W : Nat → Prop) (x : Str) (d : D) : Prop
  | mk (v : Value) (S : SlotAt env h W x v) (r : Rep h F v d)
noncomputable def EntAt (w : Wd) (env : Env) (h : Heap) (F W : Nat → Prop) (ad : Str → Nat) (x : Str) : Ent → Prop
  | .v none => DeclAt env h W x
  | .v (some d) => VAt env h F W x d
  | .ml xs => MlAt env h F W (ad x) x xs
  | .ob a fs => ObAt env h F W x a fs
noncomputable def Ent.isMl : Ent → Bool
  | .ml _ => true
  | _ => false
noncomputable def Ent.isOb : Ent → Bool
  | .ob _ _ => true
  | _ => false

/-- a frame of a def at work -/
structure Fo (w : Wd) (env : Env) (F W : Nat → Prop) (ad : Str → Nat) (κ : Env2) (ρ : Rho) (s : Shared) : Prop where
  inv : Inv w s
  st : St env
  fz : Gz w F s
  fw : ∀ a, F a → ¬ W a
  wz : Gz w W s
  wl : W env.locals
  ns : ∃ m, s.heap.Ns env.locals m
  cells : env.cells.Pairwise fun x y => x.2 ≠ y.2
  nodup : (ρ.map (·.1)).Nodup
  ents : ∀ x e, (x, e) ∈ ρ → EntAt w env s.heap F W ad x e
  cons : ∀ x d, (x, d) ∈ κ → ∃ v, ConAt w env s.heap W x v ∧ Rep s.heap F v d
  sep : ∀ x y e f, e.isMl = true → f.isMl = true → (x, e) ∈ ρ → (y, f) ∈ ρ → ad x = ad y → x = y
  one : ∀ x y e f, e.isOb = true → f.isOb = true → (x, e) ∈ ρ → (y, f) ∈ ρ → x = y

theorem SlotAt.var {w : Wd} {env : Env} {h : Heap} {W : Nat → Prop} {x : Str} {v : Value} (S : SlotAt env h W x v) (hl : Own w env.locals) (hw : ∀ a, W a → Own w a) : VarAt w env h x v := by
  cases S with
  | loc hk hn hm => exact .loc hk hl hn hm
  | cel hk hx hc wc hv => exact .cel (.inl hk) hx hc (hw _ wc) hv
theorem ConAt.var {w : Wd} {env : Env} {h : Heap} {W : Nat → Prop} {x : Str} {v : Value} (S : ConAt w env h W x v) : VarAt w env h x v := by
  cases S with
  | fre hk hx hc oc _ hv => exact .cel hk hx hc oc hv
  | glo hk hg => exact .glo hk hg

noncomputable def Ent.drop : Ent → Ent
  | .v o => .v o
  | _ => .v none
noncomputable def dropMl (ρ : Rho) : Rho := ρ.map fun p => (p.1, p.2.drop)
theorem Ent.drop_read {d : D} : ∀ {e : Ent}, e.drop.read = some d → e = .v (some d)
  | .v (some _), h => congrArg (fun o => Ent.v o) h
theorem mem_dropMl {x : Str} {e : Ent} {d : D} {ρ : Rho} (hm : (x, e) ∈ dropMl ρ) (he : e.read = some d) : (x, Ent.v (some d)) ∈ ρ :=
  (List.mem_map.mp hm).elim fun p h => by
    have h1 : p.1 = x := congrArg Prod.fst h.2
    have h2 : p.2.drop = e := congrArg Prod.snd h.2
    rw [← h2] at he
    have h3 : p = (x, Ent.v (some d)) := Prod.ext h1 (Ent.drop_read he)
    exact h3 ▸ h.1

section
variable {w : Wd} {env : Env} {F W : Nat → Prop} {ad : Str → Nat} {κ : Env2} {ρ : Rho} {s : Shared}

/-- reading, what the frame itself changes apart -/
theorem Fo.rd0 (R : Fo w env F W ad κ ρ s) : Rd w env F κ (dropMl ρ) s where
  inv := R.inv
  gz := R.fz
  st := R.st
  var := fun x e d hm he => by
    obtain ⟨v, S, r⟩ := R.ents x _ (mem_dropMl hm he)
    exact ⟨v, S.var (R.wz _ R.wl).1 fun a h => (R.wz a h).1, r⟩
  con := fun x d hm => (R.cons x d hm).elim fun v p => ⟨v, p.1.var, p.2⟩
  cells := R.cells
abbrev Bar (G W : Nat → Prop) : Nat → Prop := fun a => G a ∧ ¬ W a
noncomputable def Both (F W : Nat → Prop) : Nat → Prop := fun a => F a ∨ W a
theorem Fo.gz2 (R : Fo w env F W ad κ ρ s) : Gz w (Both F W) s := fun a h => h.elim (R.fz a) (R.wz a)
theorem Rep.up {h : Heap} {F G : Nat → Prop} {v : Value} {d : D} (r : Rep h F v d) (g : ∀ a, F a → G a) : Rep h G v d := r.mono (fun _ _ _ e => e) g
/-- reading all -/
theorem Fo.rd (R : Fo w env F W ad κ ρ s) : Rd w env (Both F W) κ ρ s where
  inv := R.inv
  gz := R.gz2
  st := R.st
  var := fun x e d hm he => by
    have E := R.ents x e hm
    have of : ∀ {v : Value}, SlotAt env s.heap W x v → VarAt w env s.heap x v := fun S => S.var (R.wz _ R.wl).1 fun a h => (R.wz a h).1
    cases e with
    | v o =>
      have he : o = some d := he
      subst he
      obtain ⟨v, S, r⟩ := E
      exact ⟨v, of S, r.up fun _ h => .inl h⟩
    | ml xs =>
      have he := Option.some.inj he
      subst he
      obtain ⟨S, wa, _, vs, hl, r⟩ := E
      exact ⟨_, of S, .list (.inr wa) hl.isList (r.mono (fun _ _ _ e => e) fun _ h => .inl h)⟩
    | ob a fs =>
      have he := Option.some.inj he
      subst he
      obtain ⟨S, wa, da, m, wd, hne, ho, hn, r⟩ := E
      exact ⟨_, of S, .inst (.inr wa) (.inr wd) ho hn.ns (r.mono (fun _ _ _ e => e) fun _ h => .inl h)⟩
  con := fun x d hm => (R.cons x d hm).elim fun v p => ⟨v, p.1.var, p.2.up fun _ h => .inl h⟩
  cells := R.cells

theorem SlotAt.keeps {h h' : Heap} {x : Str} {v : Value} (S : SlotAt env h W x v) (wl : W env.locals) (k : ∀ b o, W b → h.get? b = some o → h'.get? b = some o) : SlotAt env h' W x v := by
  cases S with
  | loc hk hn hm => exact .loc hk (hn.at fun o e => k _ o wl e) hm
  | cel hk hx hc wc hv => exact .cel hk hx hc wc (let ⟨o, ho, hd⟩ := hv; ⟨o, k _ _ wc ho, hd⟩)
theorem DeclAt.keeps {h h' : Heap} {x : Str} (S : DeclAt env h W x) (k : ∀ b o, W b → h.get? b = some o → h'.get? b = some o) : DeclAt env h' W x := by
  cases S with
  | loc hk => exact .loc hk
  | cel hk hx hc wc hv => exact .cel hk hx hc wc (let ⟨o, ho, hd⟩ := hv; ⟨o, k _ _ wc ho, hd⟩)

theorem SlotAt.decl {h : Heap} {x : Str} {v : Value} (S : SlotAt env h W x v) : DeclAt env h W x := by
  cases S with
  | loc hk hn hm => exact .loc hk
  | cel hk hx hc wc hv => exact .cel hk hx hc wc hv
theorem EntAt.decl {h : Heap} {x : Str} {e : Ent} (E : EntAt w env h F W ad x e) : DeclAt env h W x := by
  cases e with
  | v o =>
    cases o with
    | none => exact E
    | some d => obtain ⟨_, S, _⟩ := E; exact S.decl
  | ml xs => exact E.slot.decl
  | ob a fs => exact E.slot.decl
/-- an entry in another heap -/
theorem EntAt.map {h h' : Heap} {F' W' : Nat → Prop} {ad' : Str → Nat} {x : Str} {e : Ent} (E : EntAt w env h F W ad x e) (S : ∀ v, SlotAt env h W x v → SlotAt env h' W' x v) (Dc : DeclAt env h W x → DeclAt env h' W' x) (k : KeepsOn F h h') (g : ∀ a, F a → F' a) (A : ad' x = ad x)
    (L : e.isMl = true → ∀ vs, W (ad x) → LstAt h (ad x) vs → W' (ad x) ∧ LstAt h' (ad x) vs)
    (O : e.isOb = true → ∀ a da m, W a → W da → da ≠ env.locals → h.get? a = some (instObj 146 da) → h.Ns1 da m → (W' a ∧ W' da) ∧ h'.get? a = some (instObj 146 da) ∧ h'.Ns1 da m) : EntAt w env h' F' W' ad' x e := by
  cases e with
  | v o =>
    cases o with
    | none => exact Dc E
    | some d => obtain ⟨v, s, r⟩ := E; exact ⟨v, S v s, r.mono k g⟩
  | ml xs =>
    obtain ⟨s, wa, hi, vs, hl, r⟩ := E
    have l := L rfl vs wa hl
    show MlAt env h' F' W' (ad' x) x xs
    rw [A]
    exact ⟨S _ s, l.1, hi, vs, l.2, r.mono k g⟩
  | ob a fs =>
    obtain ⟨s, wa, da, m, wd, hne, ho, hn, r⟩ := E
    have l := O rfl a da m wa wd hne ho hn
    exact ⟨S _ s, l.1.1, da, m, l.1.2, hne, l.2.1, l.2.2, r.mono k g⟩
/-- the frame stands as long as what it looks at is kept -/
theorem Fo.move {s' : Shared} (R : Fo w env F W ad κ ρ s) {F' : Nat → Prop} (inv : Inv w s') (kF : KeepsOn F s.heap s'.heap) (kW : ∀ b o, W b → s.heap.get? b = some o → s'.heap.get? b = some o)
    (kc : ∀ y d c o, (y, d) ∈ κ → (env.kindOf y = some .cell ∨ env.kindOf y = some .free) → env.cells.lookup y = some c → Own w c → s.heap.get? c = some o → s'.heap.get? c = some o) (sub : ∀ a, F a → F' a) (fz' : Gz w F' s') (fw' : ∀ a, F' a → ¬ W a) : Fo w env F' W ad κ ρ s' where
  inv := inv
  st := R.st
  fz := fz'
  fw := fw'
  wz := fun a h => ⟨(R.wz a h).1, (R.wz a h).2.elim fun o e => ⟨o, kW a o h e⟩⟩
  wl := R.wl
  ns := R.ns.elim fun m h => ⟨m, h.at fun o e => kW _ o R.wl e⟩
  cells := R.cells
  nodup := R.nodup
  ents := fun y e hm => (R.ents y e hm).map (fun v S => S.keeps R.wl kW) (fun D => D.keeps kW) kF sub rfl (fun _ vs wa l => ⟨wa, l.at fun o e => kW _ o wa e⟩) fun _ a da m wa wd _ ho hn => ⟨⟨wa, wd⟩, kW _ _ wa ho, hn.at fun o e => kW _ o wd e⟩
  cons := fun y d hm => by
    obtain ⟨v, C, r⟩ := R.cons y d hm
    refine ⟨v, ?_, r.mono kF sub⟩
    cases C with
    | fre hk hx hc oc nc hv => exact .fre hk hx hc oc nc (hv.elim fun o p => ⟨o, kc y d _ o hm hk hc oc p.1, p.2⟩)
    | glo hk hg => exact .glo hk hg
  sep := R.sep
  one := R.one
/-- the frame behind an expression -/
theorem Fo.ext {s' : Shared} {G' : Nat → Prop} {G : Nat → Prop} (R : Fo w env F W ad κ ρ s) (x : Ext w s G s' G') (hG : ∀ a, F a → G a) (hG2 : ∀ a, G a → F a ∨ W a) : Fo w env (Bar G' W) W ad κ ρ s' :=
  R.move x.inv (fun b o hb e => x.keepOwn (R.fz b hb).1 e) (fun b o hb e => x.keepOwn (R.wz b hb).1 e) (fun _ _ _ _ _ _ _ oc e => x.keepOwn oc e) (fun a h => ⟨x.sub a (hG a h), R.fw a h⟩)
    (fun a h => (x.new a h.1).elim (fun q => (hG2 a q).elim (fun q => ⟨(R.fz a q).1, (R.fz a q).2.elim fun o e => ⟨o, x.keepOwn (R.fz a q).1 e⟩⟩) fun q => absurd q h.2) fun q => ⟨R.inv.own q.1, q.2⟩) fun a h => h.2

/-- what the frame reads and has read stands as F and W say -/
theorem Fo.adv {s' : Shared} {G' : Nat → Prop} {G : Nat → Prop} (R : Fo w env F W ad κ ρ s) (x : Ext w s G s' G') (hG : ∀ a, F a → G a) (hG2 : ∀ a, G a → F a ∨ W a) : Adv w W s F s' (Bar G' W) :=
  ⟨x.there, fun b o e n t => x.keep b o e (fun h => h) t, x.tab, x.gens, x.os, x.inv, fun a h => ⟨x.sub a (hG a h), R.fw a h⟩, fun a h => by
    rcases x.new a h.1 with q | q
    · exact (hG2 a q).elim .inl fun q => absurd q h.2
    · exact .inr q⟩

/-- the name's entry put anew -/
inductive Put : Rho → Str → Ent → Rho → Prop
  | hit {x : Str} {e₀ e : Ent} {r : Rho} : Put ((x, e₀) :: r) x e ((x, e) :: r)
  | skip {x : Str} {e : Ent} {p : Str × Ent} {r r' : Rho} : Put r x e r' → Put (p :: r) x e (p :: r')
abbrev namesOf (ρ : Rho) : List Str := ρ.map (·.1)
theorem Put.names {ρ ρ' : Rho} {x : Str} {e : Ent} (P : Put ρ x e ρ') : ρ'.map (·.1) = ρ.map (·.1) :=
  Put.rec (motive := fun ρ _ _ ρ' _ => ρ'.map (·.1) = ρ.map (·.1)) rfl (fun _ ih => congrArg (List.cons _) ih) P
theorem Put.mem {ρ ρ' : Rho} {x : Str} {e : Ent} (P : Put ρ x e ρ') : (x, e) ∈ ρ' :=
  Put.rec (motive := fun _ x e ρ' _ => (x, e) ∈ ρ') (.head _) (fun _ ih => .tail _ ih) P
theorem Put.was {ρ ρ' : Rho} {x : Str} {e : Ent} (P : Put ρ x e ρ') : ∃ e₀, (x, e₀) ∈ ρ :=
  Put.rec (motive := fun ρ x _ _ _ => ∃ e₀, (x, e₀) ∈ ρ) ⟨_, .head _⟩ (fun _ ih => ih.elim fun e h => ⟨e, .tail _ h⟩) P
theorem ne_of_names {ρ : Rho} {x y : Str} {e : Ent} (nd : (x :: ρ.map (·.1)).Nodup) (h : (y, e) ∈ ρ) : y ≠ x :=
  fun q => (List.nodup_cons.mp nd).1 (List.mem_map.mpr ⟨_, h, q⟩)
theorem Put.other {ρ ρ' : Rho} {x : Str} {e : Ent} (P : Put ρ x e ρ') : (ρ.map (·.1)).Nodup → ∀ {y : Str} {e' : Ent}, (y, e') ∈ ρ' → (y = x ∧ e' = e) ∨ (y ≠ x ∧ (y, e') ∈ ρ) :=
  Put.rec (motive := fun (ρ : Rho) (x : Str) (e : Ent) (ρ' : Rho) _ => (namesOf ρ).Nodup → ∀ {y : Str} {e' : Ent}, (y, e') ∈ ρ' → (y = x ∧ e' = e) ∨ (y ≠ x ∧ (y, e') ∈ ρ))
    (fun nd _ _ hm => (List.mem_cons.mp hm).elim (fun q => .inl (Prod.mk.inj q)) fun q => .inr ⟨ne_of_names nd q, .tail _ q⟩)
    (fun P ih nd _ _ hm => (List.mem_cons.mp hm).elim (fun q => .inr ⟨fun z => P.was.elim fun _ hw => ne_of_names nd hw (z.symm.trans (congrArg Prod.fst q)), q ▸ .head _⟩)
      fun q => (ih (List.nodup_cons.mp nd).2 q).elim .inl fun h => .inr ⟨h.1, .tail _ h.2⟩) P
/-- who is of a kind afterwards was so before, if the entry put was -/
theorem Put.back {ρ ρ' : Rho} {x : Str} {e : Ent} (P : Put ρ x e ρ') (nd : (ρ.map (·.1)).Nodup) {T : Ent → Bool} (hT : T e = true → ∃ e₀, T e₀ = true ∧ (x, e₀) ∈ ρ) {y : Str} {e' : Ent} (ht : T e' = true) (hm : (y, e') ∈ ρ') : ∃ e₀, T e₀ = true ∧ (y, e₀) ∈ ρ := by
  rcases P.other nd hm with ⟨rfl, rfl⟩ | ⟨_, hm⟩
  · exact hT ht
  · exact ⟨_, ht, hm⟩
noncomputable def putAt (ρ : Rho) : Nat → Ent → Rho := List.rec (fun _ _ => []) (fun p r ih i e => Nat.casesOn (motive := fun _ => Rho) i ((p.1, e) :: r) fun i => p :: ih i e) ρ
theorem put {ρ : Rho} {x : Str} {e₀ e : Ent} (i : Nat) (h : nth ρ i = some (x, e₀)) : Put ρ x e (putAt ρ i e) :=
  List.rec (motive := fun ρ => ∀ i, nth ρ i = some (x, e₀) → Put ρ x e (putAt ρ i e)) (fun _ h => absurd h.symm (Option.some_ne_none _))
    (fun p r ih i => Nat.casesOn (motive := fun i => nth (p :: r) i = some (x, e₀) → Put (p :: r) x e (putAt (p :: r) i e)) i (fun h => Option.some.inj h ▸ .hit) fun i h => .skip (ih i h)) ρ i h

/-- the frame with an entry put anew -/
theorem Fo.put (R : Fo w env F W ad κ ρ s) {x : Str} {e : Ent} {ρ' : Rho} (P : Put ρ x e ρ') {F' W' : Nat → Prop} {ad' : Str → Nat} {s' : Shared} (inv : Inv w s') (fz : Gz w F' s') (fw : ∀ a, F' a → ¬ W' a) (wz : Gz w W' s') (wl : W' env.locals) (ns : ∃ m, s'.heap.Ns env.locals m)
    (hx : EntAt w env s'.heap F' W' ad' x e) (k : KeepsOn F s.heap s'.heap) (g : ∀ a, F a → F' a) (A : ∀ y, y ≠ x → ad' y = ad y)
    (S : ∀ y v, y ≠ x → SlotAt env s.heap W y v → SlotAt env s'.heap W' y v) (Dc : ∀ y, y ≠ x → DeclAt env s.heap W y → DeclAt env s'.heap W' y)
    (L : ∀ y e, y ≠ x → (y, e) ∈ ρ → e.isMl = true → ∀ vs, W (ad y) → LstAt s.heap (ad y) vs → W' (ad y) ∧ LstAt s'.heap (ad y) vs)
    (O : ∀ y e, y ≠ x → (y, e) ∈ ρ → e.isOb = true → ∀ a da m, W a → W da → da ≠ env.locals → s.heap.get? a = some (instObj 146 da) → s.heap.Ns1 da m → (W' a ∧ W' da) ∧ s'.heap.get? a = some (instObj 146 da) ∧ s'.heap.Ns1 da m)
    (C : ∀ c v, Own w c → ¬ W c → s.heap.IsCell c v → ¬ W' c ∧ s'.heap.IsCell c v)
    (sep : ∀ y z e f, e.isMl = true → f.isMl = true → (y, e) ∈ ρ' → (z, f) ∈ ρ' → ad' y = ad' z → y = z) (one : ∀ y z e f, e.isOb = true → f.isOb = true → (y, e) ∈ ρ' → (z, f) ∈ ρ' → y = z) : Fo w env F' W' ad' κ ρ' s' where
  inv := inv
  st := R.st
  fz := fz
  fw := fw
  wz := wz
  wl := wl
  ns := ns
  cells := R.cells
  nodup := P.names ▸ R.nodup
  ents := fun y e' hm => by
    rcases P.other R.nodup hm with ⟨rfl, rfl⟩ | ⟨hne, hm⟩
    · exact hx
    · exact (R.ents y e' hm).map (fun v => S y v hne) (Dc y hne) k g (A y hne) (L y e' hne hm) (O y e' hne hm)
  cons := fun y d hm => by
    obtain ⟨v, C0, r⟩ := R.cons y d hm
    refine ⟨v, ?_, r.mono k g⟩
    cases C0 with
    | fre hk hx hc oc nc hv => exact .fre hk hx hc oc (C _ _ oc nc hv).1 (C _ _ oc nc hv).2
    | glo hk hg => exact .glo hk hg
  sep := sep
  one := one
theorem Fo.sepP (R : Fo w env F W ad κ ρ s) {x : Str} {e : Ent} {ρ' : Rho} (P : Put ρ x e ρ') (hT : e.isMl = true → ∃ e₀ : Ent, e₀.isMl = true ∧ (x, e₀) ∈ ρ) : ∀ y z e f, Ent.isMl e = true → Ent.isMl f = true → (y, e) ∈ ρ' → (z, f) ∈ ρ' → ad y = ad z → y = z :=
  fun y z _ _ he hf h1 h2 => (P.back R.nodup hT he h1).elim fun _ g1 => (P.back R.nodup hT hf h2).elim fun _ g2 => R.sep y z _ _ g1.1 g2.1 g1.2 g2.2
theorem Fo.oneP (R : Fo w env F W ad κ ρ s) {x : Str} {e : Ent} {ρ' : Rho} (P : Put ρ x e ρ') (hT : e.isOb = true → ∃ e₀ : Ent, e₀.isOb = true ∧ (x, e₀) ∈ ρ) : ∀ y z e f, Ent.isOb e = true → Ent.isOb f = true → (y, e) ∈ ρ' → (z, f) ∈ ρ' → y = z :=
  fun y z _ _ he hf h1 h2 => (P.back R.nodup hT he h1).elim fun _ g1 => (P.back R.nodup hT hf h2).elim fun _ g2 => R.one y z _ _ g1.1 g2.1 g1.2 g2.2
end
end Mine
end

noncomputable section
--# Lb10
namespace Mine
open PySem PySem.W PyProof.Rows PySem.Calls

section
variable {w : Wd} {env : Env} {F W : Nat → Prop} {ad : Str → Nat} {κ : Env2} {ρ : Rho} {s : Shared}

theorem TabOk.modify {H h h' : Heap} {b t : Nat} {l c : Int} {q : Str} (x : TabOk H h t l c q) (ht : t ≠ b) {o : Obj} (hb : h.get? b = some o) (hd : ∀ vs, o.data ≠ .fields vs) (hs : Heap.SameBut b h h') : TabOk H h' t l c q := by
  rcases x with x | ⟨c', h0, h1, ⟨c2, oc, vs, tk, e1, e2, e3, e4⟩, o', h3, h4⟩
  · exact .inl ((hs.2 t ht).trans x)
  · obtain rfl := Value.ref.inj e1
    have hc : c' ≠ b := fun q => hd vs (Option.some.inj (hb.symm.trans (q ▸ e2)) ▸ e3)
    exact .inr ⟨c', h0, (hs.2 t ht).trans h1, ⟨c', oc, vs, tk, rfl, (hs.2 c' hc).trans e2, e3, e4⟩, o', (hs.2 c' hc).trans h3, h4⟩
theorem Own.ne {a b : Nat} {o : Obj} (ob : Own w b) (e : w.H.get? a = some o) : a ≠ b := fun q => Option.some_ne_none o (e.symm.trans (q ▸ ob))
theorem Own.ne1 {b : Nat} (ob : Own w b) : 37 ≠ b := fun q => ob.notTab (.inl q.symm)
theorem Own.ne2 {b : Nat} (ob : Own w b) : 44 ≠ b := fun q => ob.notTab (.inr q.symm)
theorem Inv.modify {s : Shared} (i : Inv w s) {b : Nat} (ob : Own w b) {o : Obj} (hb : s.heap.get? b = some o) (hd : ∀ vs, o.data ≠ .fields vs) {h' : Heap} (hs : Heap.SameBut b s.heap h') (t : Nat) : Inv w { s with heap := h', toks := t } :=
  ⟨fun a _ e nt => (hs.2 a (ob.ne e)).trans (i.base a _ e nt), i.t1.modify ob.ne1 hb hd hs, i.t2.modify ob.ne2 hb hd hs, i.bare⟩
theorem Adv.modify {s : Shared} {G : Nat → Prop} (i : Inv w s) {b : Nat} (ob : Own w b) (wb : W b) {o o' : Obj} (hb : s.heap.get? b = some o) (hd : ∀ vs, o.data ≠ .fields vs) {h' : Heap} (hs : Heap.SameBut b s.heap h') (hb' : h'.get? b = some o') (t : Nat) : Adv w W s G { s with heap := h', toks := t } G where
  there := fun a oa e => (Classical.em (a = b)).elim (fun q => ⟨o', q ▸ hb'⟩) fun q => ⟨oa, (hs.2 a q).trans e⟩
  keep := fun a _ e nw _ => (hs.2 a fun q => nw (q ▸ wb)).trans e
  tab := fun a ha => .inl (hs.2 a fun q => ob.notTab (q ▸ ha))
  gens := fun _ _ e => e
  os := rfl
  inv := i.modify ob hb hd hs t
  sub := fun _ h => h
  new := fun _ h => .inl h

/-- where two different things lie -/
theorem ne_at {h : Heap} {a c : Nat} {o o' : Obj} (e : h.get? a = some o) (e' : h.get? c = some o') (hn : o.data ≠ o'.data) : c ≠ a := fun q => hn (congrArg Obj.data (Option.some.inj (e.symm.trans (q ▸ e'))))
theorem ns_data {h : Heap} {a : Nat} {m : Str → Option Value} (n : h.Ns a m) : ∃ o es ep, h.get? a = some o ∧ o.data = .dict es ep := let ⟨o, es, ep, e, d, _⟩ := n; ⟨o, es, ep, e, d⟩
theorem LstAt.data {h : Heap} {a : Nat} {vs : List Value} (x : LstAt h a vs) : ∃ o k, h.get? a = some o ∧ o.data = .seq vs.toArray k := let ⟨o, k, ho, _, _, hd⟩ := x; ⟨o, k, ho, hd⟩
theorem ne_ns {h : Heap} {a c : Nat} {m : Str → Option Value} {o : Obj} (n : h.Ns a m) (e : h.get? c = some o) (hd : ∀ es ep, o.data ≠ .dict es ep) : c ≠ a := by
  obtain ⟨o', es, ep, e', d⟩ := ns_data n
  exact ne_at e' e (fun q => hd es ep (q.symm.trans d))
theorem cell_ne_ns {h : Heap} {a c : Nat} {m : Str → Option Value} {v : Option Value} (n : h.Ns a m) (k : h.IsCell c v) : c ≠ a := k.elim fun _ p => ne_ns n p.1 fun _ _ q => nomatch p.2.symm.trans q
theorem lst_ne_ns {h : Heap} {a c : Nat} {m : Str → Option Value} {v : List Value} (n : h.Ns a m) (k : LstAt h c v) : c ≠ a := by
  obtain ⟨o, k, e, d⟩ := k.data
  exact ne_ns n e fun _ _ q => nomatch d.symm.trans q
theorem inst_ne_ns {h : Heap} {a c da : Nat} {m : Str → Option Value} (n : h.Ns a m) (k : h.get? c = some (instObj 146 da)) : c ≠ a := ne_ns n k fun _ _ q => nomatch q
theorem lst_ne_cell {h : Heap} {a c : Nat} {m : Option Value} {v : List Value} (n : h.IsCell a m) (k : LstAt h c v) : c ≠ a := by
  obtain ⟨o, k, e, d⟩ := k.data
  exact n.elim fun o' p => ne_at p.1 e fun q => nomatch (p.2.symm.trans q).trans d
theorem inst_ne_cell {h : Heap} {a c da : Nat} {m : Option Value} (n : h.IsCell a m) (k : h.get? c = some (instObj 146 da)) : c ≠ a := n.elim fun o' p => ne_at p.1 k fun q => nomatch p.2.symm.trans q
theorem inst_ne_lst {h : Heap} {a c da : Nat} {v : List Value} (n : LstAt h a v) (k : h.get? c = some (instObj 146 da)) : c ≠ a := by
  obtain ⟨o, _, e, d⟩ := n.data
  exact ne_at e k fun q => nomatch d.symm.trans q

theorem SlotAt.but {h h' : Heap} {x : Str} {v : Value} {b : Nat} (S : SlotAt env h W x v) (hs : Heap.SameBut b h h') (hL : env.locals ≠ b) (hc : ∀ c v, env.cells.lookup x = some c → h.IsCell c v → c ≠ b) : SlotAt env h' W x v := by
  cases S with
  | loc hk hn hm => exact .loc hk (hn.at fun o e => (hs.2 _ hL).trans e) hm
  | cel hk hx hl wc hv => exact .cel hk hx hl wc (hv.sameBut hs (hc _ _ hl hv))
theorem DeclAt.but {h h' : Heap} {x : Str} {b : Nat} (S : DeclAt env h W x) (hs : Heap.SameBut b h h') (hc : ∀ c v, env.cells.lookup x = some c → h.IsCell c v → c ≠ b) : DeclAt env h' W x := by
  cases S with
  | loc hk => exact .loc hk
  | cel hk hx hl wc hv => exact .cel hk hx hl wc (hv.sameBut hs (hc _ _ hl hv))
theorem Fo.keepF (R : Fo w env F W ad κ ρ s) {b : Nat} (wb : W b) {h' : Heap} (hs : Heap.SameBut b s.heap h') : KeepsOn F s.heap h' := fun a _ ha e => (hs.2 a fun q => R.fw a ha (q ▸ wb)).trans e
/-- a frame of which one thing was changed in the heap -/
theorem Fo.putBut (R : Fo w env F W ad κ ρ s) {x : Str} {e : Ent} {ρ' : Rho} (P : Put ρ x e ρ') {b : Nat} {o o' : Obj} {h' : Heap} (wb : W b) (hb : s.heap.get? b = some o) (hd : ∀ vs, o.data ≠ .fields vs) (hs : Heap.SameBut b s.heap h') (hb' : h'.get? b = some o') (t : Nat)
    (ns : ∃ m, h'.Ns env.locals m) (hx : EntAt w env h' F W ad x e) (S : ∀ y v, y ≠ x → SlotAt env s.heap W y v → SlotAt env h' W y v) (Dc : ∀ y, y ≠ x → DeclAt env s.heap W y → DeclAt env h' W y)
    (L : ∀ y e vs, y ≠ x → (y, e) ∈ ρ → e.isMl = true → LstAt s.heap (ad y) vs → ad y ≠ b) (O : ∀ y e a da m, y ≠ x → (y, e) ∈ ρ → e.isOb = true → da ≠ env.locals → s.heap.get? a = some (instObj 146 da) → s.heap.Ns1 da m → a ≠ b ∧ da ≠ b)
    (hml : e.isMl = true → ∃ e₀ : Ent, e₀.isMl = true ∧ (x, e₀) ∈ ρ) (hob : e.isOb = true → ∃ e₀ : Ent, e₀.isOb = true ∧ (x, e₀) ∈ ρ) : Fo w env F W ad κ ρ' { s with heap := h', toks := t } ∧ Adv w W s F { s with heap := h', toks := t } F :=
  have av := Adv.modify (G := F) R.inv (R.wz _ wb).1 wb hb hd hs hb' t
  ⟨R.put P av.inv (fun a h => ⟨(R.fz a h).1, (R.fz a h).2.elim fun o e => ⟨o, R.keepF wb hs a o h e⟩⟩) R.fw (fun a h => ⟨(R.wz a h).1, (R.wz a h).2.elim fun o e => av.there a o e⟩) R.wl ns hx (R.keepF wb hs) (fun _ h => h) (fun _ _ => rfl) S Dc
    (fun y e hne hm he vs wa l => ⟨wa, l.at fun o q => (hs.2 _ (L y e vs hne hm he l)).trans q⟩)
    (fun y e hne hm he a da m wa wd hl ho hn => ⟨⟨wa, wd⟩, (hs.2 _ (O y e a da m hne hm he hl ho hn).1).trans ho, hn.at fun o q => (hs.2 _ (O y e a da m hne hm he hl ho hn).2).trans q⟩)
    (fun c v oc nc hv => ⟨nc, hv.sameBut hs fun q => nc (q ▸ wb)⟩) (R.sepP P hml) (R.oneP P hob), av⟩

/-- a name stored -/
theorem Fo.storeG (R : Fo w env F W ad κ ρ s) {x : Str} {e : Ent} {ρ' : Rho} (P : Put ρ x e ρ') {v : Value} (he : ∀ h', SlotAt env h' W x v → KeepsOn F s.heap h' → EntAt w env h' F W ad x e) (hml : e.isMl = false) (hob : e.isOb = false) {A : Around} {E : Value → Shared → Prop} {Q : Unit → Shared → Prop}
    (h : ∀ s', Fo w env F W ad κ ρ' s' → SlotAt env s'.heap W x v → Adv w W s F s' F → (∀ b o vs, s.heap.get? b = some o → o.data = .fields vs → s'.heap.get? b = some o) → Q () s') : wpAny (MM w) A (storeName env x v) Q E s := by
  obtain ⟨e₀, hw⟩ := P.was
  obtain ⟨m, hn⟩ := R.ns
  obtain ⟨oL, es, ep, eL, dL⟩ := ns_data hn
  have D := (R.ents x e₀ hw).decl
  have keepR {b : Nat} {o : Obj} {h' : Heap} (hs : Heap.SameBut b s.heap h') (hb : s.heap.get? b = some o) (hd : ∀ vs, o.data ≠ .fields vs) : ∀ c u vs, s.heap.get? c = some u → u.data = .fields vs → h'.get? c = some u :=
    fun c u vs e q => (hs.2 c fun z => hd vs (Option.some.inj (hb.symm.trans (z ▸ e)) ▸ q)).trans e
  cases D with
  | loc hk =>
    refine wpAny_storeName_local hk hn (fun h' hn' hs => ?_) (by rw [R.st.kind]; rfl)
    obtain ⟨oL', es', ep', eL', dL'⟩ := ns_data hn'
    have hd : ∀ vs, oL.data ≠ .fields vs := fun vs q => nomatch dL.symm.trans q
    have S : SlotAt env h' W x v := .loc hk hn' (if_pos rfl)
    have hc : ∀ {y : Str} c u, env.cells.lookup y = some c → s.heap.IsCell c u → c ≠ env.locals := fun c u _ q => cell_ne_ns hn q
    obtain ⟨R', av⟩ := R.putBut P R.wl eL hd hs eL' _ ⟨_, hn'⟩ (he _ S (R.keepF R.wl hs)) (fun y u hne S => by
        cases S with
        | loc hk2 hn2 hm2 => exact .loc hk2 hn' ((if_neg hne).trans ((hn.agree hn2 _).trans hm2))
        | cel hk2 hx2 hc2 wc hv => exact .cel hk2 hx2 hc2 wc (hv.sameBut hs (cell_ne_ns hn hv)))
      (fun y _ D => D.but hs hc) (fun _ _ _ _ _ _ l => lst_ne_ns hn l) (fun _ _ _ _ _ _ _ _ hl ho _ => ⟨inst_ne_ns hn ho, hl⟩) (fun q => absurd q (hml ▸ Bool.noConfusion)) (fun q => absurd q (hob ▸ Bool.noConfusion))
    exact h _ R' S av (keepR hs eL hd)
  | @cel c v₀ hk hx hc wc hv =>
    refine wpAny_storeName_cell R.st.kind hk hc hv fun h' hc' hs => ?_
    obtain ⟨oc, eoc, doc⟩ := id hv
    obtain ⟨oc', eoc', doc'⟩ := id hc'
    have hd : ∀ vs, oc.data ≠ .fields vs := fun vs q => nomatch doc.symm.trans q
    have hLc : env.locals ≠ c := fun q => cell_ne_ns hn hv q.symm
    have S : SlotAt env h' W x v := .cel hk hx hc wc hc'
    have hcc : ∀ {y : Str} (_ : y ≠ x) c' u, env.cells.lookup y = some c' → s.heap.IsCell c' u → c' ≠ c := fun hne c' u e _ q => hne (name_of_addr R.cells (mem_of_lookup (q ▸ e)) (mem_of_lookup hc))
    obtain ⟨R', av⟩ := R.putBut P wc eoc hd hs eoc' s.toks ⟨m, hn.at fun o e => (hs.2 _ hLc).trans e⟩ (he _ S (R.keepF wc hs)) (fun y u hne S => S.but hs hLc (hcc hne))
      (fun y hne D => D.but hs (hcc hne)) (fun _ _ _ _ _ _ l => lst_ne_cell hv l) (fun _ _ _ _ _ _ _ _ _ ho q => ⟨inst_ne_cell hv ho, fun z => cell_ne_ns q.ns (z ▸ hv) rfl⟩) (fun q => absurd q (hml ▸ Bool.noConfusion)) (fun q => absurd q (hob ▸ Bool.noConfusion))
    exact h _ R' S av (keepR hs eoc hd)
/-- a datum stored -/
theorem Fo.store (R : Fo w env F W ad κ ρ s) {x : Str} {d : D} {ρ' : Rho} (P : Put ρ x (.v (some d)) ρ') {v : Value} (r : Rep s.heap F v d) {A : Around} {E : Value → Shared → Prop} {Q : Unit → Shared → Prop}
    (h : ∀ s', Fo w env F W ad κ ρ' s' → Adv w W s F s' F → Q () s') : wpAny (MM w) A (storeName env x v) Q E s :=
  R.storeG P (fun h' S k => ⟨v, S, r.mono k fun _ h => h⟩) rfl rfl fun s' R' S a _ => h s' R' a

theorem SlotAt.mono {h : Heap} {W W' : Nat → Prop} {x : Str} {v : Value} (S : SlotAt env h W x v) (g : ∀ a, W a → W' a) : SlotAt env h W' x v := by
  cases S with
  | loc hk hn hm => exact .loc hk hn hm
  | cel hk hx hc wc hv => exact .cel hk hx hc (g _ wc) hv
theorem DeclAt.mono {h : Heap} {W W' : Nat → Prop} {x : Str} (S : DeclAt env h W x) (g : ∀ a, W a → W' a) : DeclAt env h W' x := by
  cases S with
  | loc hk => exact .loc hk
  | cel hk hx hc wc hv => exact .cel hk hx hc (g _ wc) hv
noncomputable def adSet (ad : Str → Nat) (x : Str) (a : Nat) : Str → Nat := fun y => if y = x then a else ad y

/-- a new list, stored: from now on the frame's own -/
theorem Fo.promote (R : Fo w env F W ad κ ρ s) {x : Str} {a : Nat} {xs : List D} {ρ' : Rho} (hx : (x, Ent.v none) ∈ ρ) (P : Put ρ x (.ml xs) ρ') (S : SlotAt env s.heap W x (.ref a)) (oa : Own w a) (na : ¬ W a) (nf : ¬ F a)
    {vs : List Value} (hl : LstAt s.heap a vs) (r : RepL s.heap F vs xs) (hi : ∀ d ∈ xs, d.imm = true) : Fo w env F (Plus W a) (adSet ad x a) κ ρ' s := by
  have g : ∀ b, W b → Plus W a b := fun _ h => .inl h
  have A : adSet ad x a x = a := if_pos rfl
  have A' : ∀ y, y ≠ x → adSet ad x a y = ad y := fun y h => if_neg h
  refine R.put P R.inv R.fz (fun b h q => q.elim (R.fw b h) fun q => nf (q ▸ h)) (fun b h => h.elim (R.wz b) fun q => q ▸ ⟨oa, hl.look⟩) (g _ R.wl) R.ns ?_ (fun _ _ _ e => e) (fun _ h => h) A' (fun y v _ S => S.mono g) (fun y _ D => D.mono g) (fun _ _ _ _ _ _ wa l => ⟨g _ wa, l⟩)
    (fun _ _ _ _ _ _ _ _ wa wd _ ho hn => ⟨⟨g _ wa, g _ wd⟩, ho, hn⟩) (fun c v oc nc hv => ⟨fun q => q.elim nc fun q => lst_ne_cell hv hl q.symm, hv⟩) ?_ (R.oneP P fun q => absurd q Bool.noConfusion)
  · show MlAt env s.heap F (Plus W a) (adSet ad x a x) x xs
    rw [A]; exact ⟨S.mono g, .inr rfl, hi, vs, hl, r⟩
  · have own : ∀ {y : Str} {e : Ent}, e.isMl = true → (y, e) ∈ ρ → ad y ≠ a := fun {y e} he hm q => by
      cases e with
      | ml ys => exact na (q ▸ (R.ents y _ hm).own)
      | _ => cases he
    intro y z e f he hf h1 h2 q
    rcases P.other R.nodup h1 with ⟨rfl, rfl⟩ | ⟨n1, h1⟩
    · rcases P.other R.nodup h2 with ⟨rfl, _⟩ | ⟨n2, h2⟩
      · rfl
      · rw [A, A' _ n2] at q
        exact absurd q.symm (own hf h2)
    · rcases P.other R.nodup h2 with ⟨rfl, _⟩ | ⟨n2, h2⟩
      · rw [A, A' _ n1] at q
        exact absurd q (own he h1)
      · rw [A' _ n1, A' _ n2] at q
        exact R.sep y z _ _ he hf h1 h2 q
theorem Put.twice {ρ ρ' : Rho} {x : Str} {e : Ent} (e' : Ent) (P : Put ρ x e ρ') : ∃ ρ₁, Put ρ x e' ρ₁ ∧ Put ρ₁ x e ρ' ∧ (x, e') ∈ ρ₁ :=
  Put.rec (motive := fun ρ x e ρ' _ => ∃ ρ₁, Put ρ x e' ρ₁ ∧ Put ρ₁ x e ρ' ∧ (x, e') ∈ ρ₁) ⟨_, .hit, .hit, .head _⟩ (fun _ ih => ih.elim fun _ h => ⟨_, .skip h.1, .skip h.2.1, .tail _ h.2.2⟩) P
theorem Fo.storeN (R : Fo w env F W ad κ ρ s) {x : Str} {a : Nat} {xs : List D} {ρ' : Rho} (P : Put ρ x (.ml xs) ρ') (oa : Own w a) (na : ¬ W a) (nf : ¬ F a)
    {vs : List Value} (hl : LstAt s.heap a vs) (r : RepL s.heap F vs xs) (hi : ∀ d ∈ xs, d.imm = true) {A : Around} {E : Value → Shared → Prop} {Q : Unit → Shared → Prop}
    (h : ∀ s', Fo w env F (Plus W a) (adSet ad x a) κ ρ' s' → Adv w W s F s' F → Q () s') : wpAny (MM w) A (storeName env x (.ref a)) Q E s := by
  obtain ⟨ρ₁, p1, p2, h1⟩ := P.twice (.v none)
  refine R.storeG p1 (fun h' S k => S.decl) rfl rfl fun s' R' S av _ => ?_
  have hl' : LstAt s'.heap a vs := hl.at fun o e => av.keep _ _ e na oa.notTab
  exact h s' (R'.promote h1 p2 S oa na nf hl' (r.imm hi) hi) av
end
end Mine
end

noncomputable section
--# Lb11
namespace Mine
open PySem PySem.W PyProof.Rows PySem.Calls

/-- how a statement ends -/
inductive Fl where
  | next | brk | cont
  | ret (d : D)
inductive FlR (h : Heap) (G : Nat → Prop) : Flow → Fl → Prop
  | next : FlR h G .next .next
  | brk : FlR h G .brk .brk
  | cont : FlR h G .cont .cont
  | ret {v : Value} {d : D} : Rep h G v d → FlR h G (.ret v) (.ret d)

@[elab_as_elim] theorem FlR.go {h : Heap} {G : Nat → Prop} {fl : Flow} {f : Fl} (r : FlR h G fl f) {K : Fl → Prop} (k : K f) {C : Flow → Prop} (next : K .next → C .next) (brk : K .brk → C .brk) (cont : K .cont → C .cont) (ret : ∀ v d, Rep h G v d → K (.ret d) → C (.ret v)) : C fl :=
  FlR.casesOn (motive := fun fl f _ => K f → C fl) r next brk cont (fun r k => ret _ _ r k) k

/-- a frame's steps: what it owns apart all is kept -/
structure Stp (F W : Nat → Prop) (s : Shared) (F' W' : Nat → Prop) (s' : Shared) : Prop where
  there : ∀ b o, s.heap.get? b = some o → ∃ o', s'.heap.get? b = some o'
  keep : ∀ b o, s.heap.get? b = some o → ¬ W b → ¬ isTab b → s'.heap.get? b = some o
  tab : ∀ b, isTab b → TabStep s.heap s'.heap b
  gens : ∀ (i : Nat) x, s.gens[i]? = some x → s'.gens[i]? = some x
  os : s'.os = s.os
  fsub : ∀ a, F a → F' a
  fnew : ∀ a, F' a → F a ∨ W a ∨ New s s' a
  wnew : ∀ a, W' a → W a ∨ s.heap.get? a = none
  wz : ∀ a, W' a → ∃ o, s'.heap.get? a = some o

theorem Adv.stp {w : Wd} {F W F' : Nat → Prop} {s s' : Shared} (x : Adv w W s F s' F') (z : ∀ a, W a → ∃ o, s.heap.get? a = some o) : Stp F W s F' W s' :=
  ⟨x.there, x.keep, x.tab, x.gens, x.os, x.sub, fun a h => (x.new a h).elim .inl fun h => .inr (.inr h), fun a h => .inl h, fun a h => let ⟨o, e⟩ := z a h; x.there a o e⟩
theorem Stp.plus {F W F' W' : Nat → Prop} {s s' : Shared} (x : Stp F W s F' W' s') {a : Nat} (ha : s.heap.get? a = none) (z : ∀ b, Plus W' a b → ∃ o, s'.heap.get? b = some o) : Stp F W s F' (Plus W' a) s' :=
  ⟨x.there, x.keep, x.tab, x.gens, x.os, x.fsub, x.fnew, fun b h => by
    rcases h with h | rfl
    · exact x.wnew b h
    · exact .inr ha, z⟩
theorem Stp.nay {F W F' W' : Nat → Prop} {s s' : Shared} (x : Stp F W s F' W' s') {b : Nat} (h : s'.heap.get? b = none) : s.heap.get? b = none := by
  cases e : s.heap.get? b with
  | none => rfl
  | some o => exact (x.there b o e).elim fun o' q => absurd (h.symm.trans q) (Option.some_ne_none o').symm
theorem Stp.trans {F W F₁ W₁ F₂ W₂ : Nat → Prop} {s s₁ s₂ : Shared} (x : Stp F W s F₁ W₁ s₁) (y : Stp F₁ W₁ s₁ F₂ W₂ s₂) : Stp F W s F₂ W₂ s₂ where
  there := fun b o e => (x.there b o e).elim fun o' e' => y.there b o' e'
  keep := fun b o e n t => y.keep b o (x.keep b o e n t) (fun h => (x.wnew b h).elim n fun q => Option.some_ne_none o (e.symm.trans q)) t
  tab := fun b hb => (x.tab b hb).trans (y.tab b hb)
  gens := fun i z e => y.gens i z (x.gens i z e)
  os := y.os.trans x.os
  fsub := fun a h => y.fsub a (x.fsub a h)
  fnew := fun a h => (y.fnew a h).elim (fun h => (x.fnew a h).elim .inl fun h => .inr (h.elim .inl fun h => .inr ⟨h.1, h.2.elim fun o q => y.there a o q⟩))
    fun h => .inr (h.elim (fun h => (x.wnew a h).elim .inl fun q => .inr ⟨q, (x.wz a h).elim fun o e => y.there a o e⟩) fun h => .inr ⟨x.nay h.1, h.2⟩)
  wnew := fun a h => (y.wnew a h).elim (x.wnew a) fun h => .inr (x.nay h)
  wz := y.wz

inductive PS (w : Wd) (env : Env) (κ : Env2) (F W : Nat → Prop) (s : Shared) (K : Fl → Rho → Prop) (fl : Flow) (s' : Shared) : Prop
  | mk (F' W' : Nat → Prop) (ad' : Str → Nat) (ρ' : Rho) (f : Fl) (k : K f ρ') (r : FlR s'.heap F' fl f) (R : Fo w env F' W' ad' κ ρ' s') (y : Stp F W s F' W' s')
theorem PS.elim {w : Wd} {env : Env} {κ : Env2} {F W : Nat → Prop} {s s' : Shared} {K : Fl → Rho → Prop} {fl : Flow} {C : Flow → Prop} (p : PS w env κ F W s K fl s')
    (k : ∀ F' W' ad' ρ' f, K f ρ' → FlR s'.heap F' fl f → Fo w env F' W' ad' κ ρ' s' → Stp F W s F' W' s' → C fl) : C fl := let ⟨F', W', ad', ρ', f, q, r, R, y⟩ := p; k F' W' ad' ρ' f q r R y
theorem PS.back {w : Wd} {env : Env} {κ : Env2} {F W F₁ W₁ : Nat → Prop} {s s₁ s' : Shared} {K : Fl → Rho → Prop} {fl : Flow} (x : Stp F W s F₁ W₁ s₁) (p : PS w env κ F₁ W₁ s₁ K fl s') : PS w env κ F W s K fl s' :=
  p.elim (C := (PS w env κ F W s K · s')) fun F' W' ad' ρ' f k r R y => ⟨F', W', ad', ρ', f, k, r, R, x.trans y⟩
theorem PS.mono {w : Wd} {env : Env} {κ : Env2} {F W : Nat → Prop} {s s' : Shared} {K K' : Fl → Rho → Prop} {fl : Flow} (p : PS w env κ F W s K fl s') (q : ∀ f ρ, K f ρ → K' f ρ) : PS w env κ F W s K' fl s' :=
  p.elim (C := (PS w env κ F W s K' · s')) fun F' W' ad' ρ' f k r R y => ⟨F', W', ad', ρ', f, q _ _ k, r, R, y⟩
theorem PS.on {w : Wd} {env : Env} {κ : Env2} {F W F' W' : Nat → Prop} {ad : Str → Nat} {ρ : Rho} {s s' : Shared} {K : Fl → Rho → Prop} (k : K .next ρ) (R : Fo w env F' W' ad κ ρ s') (y : Stp F W s F' W' s') : PS w env κ F W s K .next s' := ⟨_, _, _, _, _, k, .next, R, y⟩
/-- a statement -/
structure SV (w : Wd) (n : Nat) (sc : Scope) (κ : Env2) (ρ : Rho) (st : Stmt) (K : Fl → Rho → Prop) : Prop where
  run : ∀ (A : Around) (env : Env) (F W : Nat → Prop) (ad : Str → Nat) (s : Shared), env.scope = sc → Bud A n → Frm A → Fo w env F W ad κ ρ s → wpAny (MM w) A (exec st env) (PS w env κ F W s K) NoE s
structure SVs (w : Wd) (n : Nat) (sc : Scope) (κ : Env2) (ρ : Rho) (ss : List Stmt) (K : Fl → Rho → Prop) : Prop where
  run : ∀ (A : Around) (env : Env) (F W : Nat → Prop) (ad : Str → Nat) (s : Shared), env.scope = sc → Bud A n → Frm A → Fo w env F W ad κ ρ s → wpAny (MM w) A (execs ss env) (PS w env κ F W s K) NoE s

section
variable {w : Wd} {n : Nat} {sc : Scope} {κ : Env2} {ρ : Rho} {K : Fl → Rho → Prop} {env : Env} {F W G' : Nat → Prop} {ad : Str → Nat} {s s' : Shared}

theorem Fo.wthere (R : Fo w env F W ad κ ρ s) : ∀ a, W a → ∃ o, s.heap.get? a = some o := fun a h => (R.wz a h).2
theorem Fo.stay (R : Fo w env F W ad κ ρ s) : Stp F W s F W s := (Adv.refl R.inv).stp R.wthere
theorem Fo.clean (R : Fo w env F W ad κ ρ s) (x : Ext w s F s' G') : ∀ a, G' a → G' a ∧ ¬ W a := fun a h => ⟨h, fun q => by
  rcases x.new a h with h | ⟨h, _⟩
  · exact R.fw a h q
  · obtain ⟨o, e⟩ := R.wthere a q
    rw [h] at e; cases e⟩
/-- behind an expression, without what the frame changes -/
theorem Fo.ext0 (R : Fo w env F W ad κ ρ s) (x : Ext w s F s' G') : Fo w env (Bar G' W) W ad κ ρ s' ∧ Stp F W s (Bar G' W) W s' :=
  ⟨R.ext x (fun _ h => h) fun _ h => .inl h, (R.adv x (fun _ h => h) fun _ h => .inl h).stp R.wthere⟩
theorem Fo.ext2 (R : Fo w env F W ad κ ρ s) (x : Ext w s (Both F W) s' G') : Fo w env (Bar G' W) W ad κ ρ s' ∧ Stp F W s (Bar G' W) W s' :=
  ⟨R.ext x (fun _ h => .inl h) fun _ h => h, (R.adv x (fun _ h => .inl h) fun _ h => h).stp R.wthere⟩

/-- what comes next, by name -/
noncomputable def kSeq (w : Wd) (n : Nat) (sc : Scope) (κ : Env2) (rest : List Stmt) (K : Fl → Rho → Prop) : Fl → Rho → Prop
  | .next, ρ => SVs w n sc κ ρ rest K
  | .brk, ρ => K .brk ρ
  | .cont, ρ => K .cont ρ
  | .ret d, ρ => K (.ret d) ρ
inductive Asg (ρ : Rho) (x : Str) (e : Ent) (K : Fl → Rho → Prop) : Prop
  | mk (ρ' : Rho) (P : Put ρ x e ρ') (k : K .next ρ')
abbrev kAsg (ρ : Rho) (x : Str) (K : Fl → Rho → Prop) (d : D) : Prop := Asg ρ x (.v (some d)) K
abbrev kAsgI (ρ : Rho) (x : Str) (K : Fl → Rho → Prop) (d : D) : Prop := d.imm = true ∧ Asg ρ x (.v (some d)) K
abbrev kAsgN (ρ : Rho) (x : Str) (K : Fl → Rho → Prop) (ds : List D) : Prop := (∀ d ∈ ds, d.imm = true) ∧ Asg ρ x (.ml ds) K
abbrev kAug (w : Wd) (n : Nat) (op : Operator) (d₀ : D) (Q : D → Prop) (d : D) : Prop := Op2 w n (inplaceOp op) d₀ d Q
abbrev kRet (K : Fl → Rho → Prop) (ρ : Rho) (d : D) : Prop := K (.ret d) ρ
abbrev kRetI (K : Fl → Rho → Prop) (ρ : Rho) (d : D) : Prop := d.imm = true ∧ K (.ret d) ρ

theorem SVs.nil (k : K .next ρ) : SVs w n sc κ ρ [] K := ⟨fun A env F W ad s hs b f R => wpAny_execs_nil (.on k R R.stay)⟩
theorem SVs.on {A : Around} {F₀ W₀ : Nat → Prop} {s₀ : Shared} {ss : List Stmt} (h : SVs w n sc κ ρ ss K) (hs : env.scope = sc) (b : Bud A n) (f : Frm A) (R : Fo w env F W ad κ ρ s) (y : Stp F₀ W₀ s₀ F W s) : wpAny (MM w) A (execs ss env) (PS w env κ F₀ W₀ s₀ K) NoE s :=
  wpAny_mono (h.run A env F W ad s hs b f R) (fun _ _ p => p.back y) fun _ _ x => x
theorem SVs.cons {st : Stmt} {rest : List Stmt} (h : SV w n sc κ ρ st (kSeq w n sc κ rest K)) : SVs w n sc κ ρ (st :: rest) K := by
  constructor
  intro A env F W ad s hs b f R
  refine wpAny_execs_cons (wpAny_mono (h.run A env F W ad s hs b f R) (fun fl s1 p => ?_) fun _ _ x => x)
  obtain ⟨F1, W1, ad1, ρ1, g, k, r, R1, x1⟩ := p
  refine r.go (K := (kSeq w n sc κ rest K · ρ1)) k (fun k => ?_) (fun k => ?_) (fun k => ?_) fun _ _ r k => ?_
  · exact SVs.on k hs b f R1 x1
  · exact ⟨F1, W1, ad1, ρ1, _, k, .brk, R1, x1⟩
  · exact ⟨F1, W1, ad1, ρ1, _, k, .cont, R1, x1⟩
  · exact ⟨F1, W1, ad1, ρ1, _, k, .ret r, R1, x1⟩
theorem SVs.mono {ss : List Stmt} {K' : Fl → Rho → Prop} (h : SVs w n sc κ ρ ss K) (q : ∀ f ρ, K f ρ → K' f ρ) : SVs w n sc κ ρ ss K' :=
  ⟨fun A env F W ad s hs b f R => wpAny_mono (h.run A env F W ad s hs b f R) (fun _ _ p => p.mono q) fun _ _ x => x⟩
theorem SV.mono {ss : Stmt} {K' : Fl → Rho → Prop} (h : SV w n sc κ ρ ss K) (q : ∀ f ρ, K f ρ → K' f ρ) : SV w n sc κ ρ ss K' :=
  ⟨fun A env F W ad s hs b f R => wpAny_mono (h.run A env F W ad s hs b f R) (fun _ _ p => p.mono q) fun _ _ x => x⟩

section
variable {A : Around} {Q : D → Prop}
/-- an expression in a frame at work: without, or with, what the frame changes -/
theorem EV.in0 {e : Expr} {P : Value → Shared → Prop} (h : EV w n sc κ (dropMl ρ) e Q) (hs : env.scope = sc) (b : Bud A n) (f : Frm A) (R : Fo w env F W ad κ ρ s)
    (k : ∀ v s1 (G1 : Nat → Prop) d, Q d → Rep s1.heap (Bar G1 W) v d → Fo w env (Bar G1 W) W ad κ ρ s1 → Stp F W s (Bar G1 W) W s1 → P v s1) : wpAny (MM w) A (eval e env) P NoE s :=
  wpAny_mono (h.run A env F s hs b f R.rd0) (fun v s1 p => p.elim fun G1 d q r x => k v s1 G1 d q (r.mono (fun _ _ _ e => e) (R.clean x)) (R.ext0 x).1 (R.ext0 x).2) fun _ _ x => x
theorem EV.in2 {e : Expr} {P : Value → Shared → Prop} (h : EV w n sc κ ρ e Q) (hs : env.scope = sc) (b : Bud A n) (f : Frm A) (R : Fo w env F W ad κ ρ s)
    (k : ∀ v s1 (G1 : Nat → Prop) d, Q d → Rep s1.heap G1 v d → Ext w s (Both F W) s1 G1 → Fo w env (Bar G1 W) W ad κ ρ s1 → Stp F W s (Bar G1 W) W s1 → P v s1) : wpAny (MM w) A (eval e env) P NoE s :=
  wpAny_mono (h.run A env _ s hs b f R.rd) (fun v s1 p => p.elim fun G1 d q r x => k v s1 G1 d q r x (R.ext2 x).1 (R.ext2 x).2) fun _ _ x => x
theorem Asg.store {F₀ W₀ : Nat → Prop} {s₀ : Shared} {x : Str} {d : D} {v : Value} {E : Value → Shared → Prop} (a : Asg ρ x (.v (some d)) K) (R : Fo w env F W ad κ ρ s) (y : Stp F₀ W₀ s₀ F W s) (r : Rep s.heap F v d) : wpAny (MM w) A (storeName env x v) (fun _ s' => PS w env κ F₀ W₀ s₀ K .next s') E s := by
  obtain ⟨ρ', P, k⟩ := a
  exact R.store P r fun s2 R2 a => .on k R2 (y.trans (a.stp R.wthere))
end

/-- x = e -/
theorem SV.asg {x : Str} {p pos : Pos} {e : Expr} (h : EV w n sc κ (dropMl ρ) e (kAsg ρ x K))
    (hw : ∀ env, swapsWith e (some (.Name x p)) pos.line env = pure false := by intro _; rfl) : SV w n sc κ ρ (.Assign [.Name x p] e pos) K :=
  ⟨fun A env F W ad s hs b f R => wpAny_Assign_Name (h.in0 hs b f R fun _ _ _ _ q r R1 y => q.store R1 y r) (hw env)⟩
theorem SV.asgI {x : Str} {p pos : Pos} {e : Expr} (h : EV w n sc κ ρ e (kAsgI ρ x K))
    (hw : ∀ env, swapsWith e (some (.Name x p)) pos.line env = pure false := by intro _; rfl) : SV w n sc κ ρ (.Assign [.Name x p] e pos) K :=
  ⟨fun A env F W ad s hs b f R => wpAny_Assign_Name (h.in2 hs b f R fun _ _ _ _ q r _ R1 y => q.2.store R1 y (r.imm q.1)) (hw env)⟩
/-- x = [..], a list that the frame goes on to change -/
theorem Asg.storeN {A : Around} {x : Str} {ds : List D} {v : Value} {s0 : Shared} {Q : List D → Prop} (R : Fo w env F W ad κ ρ s0) (p : PostN w s0 (Both F W) (kAsgN ρ x K) v s) : wpAny (MM w) A (storeName env x v) (fun _ s' => PS w env κ F W s0 K .next s') NoE s := by
  obtain ⟨G1, a, vs, ds, rfl, ⟨hi, ρ', P, k⟩, ha, hg, hl, r, x1⟩ := p
  obtain ⟨R1, y1⟩ := R.ext2 x1
  have na : ¬ W a := fun h => (R.wthere a h).elim fun o e => Option.some_ne_none o (e.symm.trans ha)
  exact R1.storeN P (R.inv.own ha) na (fun h => hg h.1) hl (r.imm hi) hi fun s2 R2 av => .on k R2 ((y1.trans (av.stp R1.wthere)).plus ha R2.wthere)
theorem SV.asgN {x : Str} {p pos : Pos} {e : Expr} (h : EN w n sc κ ρ e (kAsgN ρ x K))
    (hw : ∀ env, swapsWith e (some (.Name x p)) pos.line env = pure false := by intro _; rfl) : SV w n sc κ ρ (.Assign [.Name x p] e pos) K :=
  ⟨fun A env F W ad s hs b f R => wpAny_Assign_Name (wpAny_mono (h.run A env _ s hs b f R.rd) (fun _ _ p => Asg.storeN (ds := []) (Q := fun _ => True) R p) fun _ _ x => x) (hw env)⟩
/-- x op= e -/
theorem SV.aug {x : Str} {p pos : Pos} {op : Operator} {e : Expr} {d₀ : D} (hm : (x, Ent.v (some d₀)) ∈ ρ) (h : EV w n sc κ ρ e (kAug w n op d₀ (kAsgI ρ x K))) :
    SV w n sc κ ρ (.AugAssign (.Name x p) op e pos) K := by
  constructor
  intro A env F W ad s hs b f R
  have Rr := R.rd
  obtain ⟨v₀, V, r₀⟩ := Rr.var x _ _ hm rfl
  refine wpAny_AugAssign_Name (wp_loadName R.inv R.st V (h.then hs b f Rr fun v s1 G1 d h1 r x1 R1 => wpAny_mono (h1.run A G1 s1 v₀ v b f x1.inv R1.gz (x1.rep Rr.gz r₀) r) (fun v2 s2 p2 => ?_) fun _ _ x => x))
  exact p2.elim fun G2 d2 q r2 x2 => q.2.store (R.ext2 (x1.trans x2)).1 (R.ext2 (x1.trans x2)).2 (r2.imm q.1)
/-- return e -/
theorem SV.ret {pos : Pos} {e : Expr} (h : EV w n sc κ (dropMl ρ) e (kRet K ρ)) : SV w n sc κ ρ (.Return (some e) pos) K :=
  ⟨fun A env F W ad s hs b f R => wpAny_Return_some (h.in0 hs b f R fun _ _ _ _ k r R1 y => ⟨_, _, _, _, .ret _, k, .ret r, R1, y⟩)⟩
theorem SV.retI {pos : Pos} {e : Expr} (h : EV w n sc κ ρ e (kRetI K ρ)) : SV w n sc κ ρ (.Return (some e) pos) K :=
  ⟨fun A env F W ad s hs b f R => wpAny_Return_some (h.in2 hs b f R fun _ _ _ _ k r _ R1 y => ⟨_, _, _, _, .ret _, k.2, .ret (r.imm k.1), R1, y⟩)⟩
theorem SV.ret0 {pos : Pos} (k : K (.ret .none) ρ) : SV w n sc κ ρ (.Return none pos) K :=
  ⟨fun A env F W ad s hs b f R => wpAny_Return_none ⟨_, _, _, _, .ret .none, k, .ret .none, R, R.stay⟩⟩
theorem SV.brk {pos : Pos} (k : K .brk ρ) : SV w n sc κ ρ (.Break pos) K :=
  ⟨fun A env F W ad s hs b f R => wpAny_Break ⟨_, _, _, _, .brk, k, .brk, R, R.stay⟩⟩
theorem SV.if {pos : Pos} {t : Expr} {b e : List Stmt} (h : TV w n sc κ ρ t (kIte (SVs w n sc κ ρ b K) (SVs w n sc κ ρ e K))) : SV w n sc κ ρ (.If t b e pos) K := by
  constructor
  intro A env F W ad s hs bd f R
  refine wpAny_If (wpAny_mono (h.run A env _ s hs bd f R.rd) (fun c s1 p1 => ?_) fun _ _ x => x)
  obtain ⟨G1, h1, x1⟩ := p1
  obtain ⟨R1, y1⟩ := R.ext2 x1
  cases c <;> exact h1.on hs bd f R1 y1

/-- the post of a loop's body -/
noncomputable def kLoop (I : Rho → Prop) (K : Fl → Rho → Prop) : Fl → Rho → Prop
  | .next, ρ => I ρ
  | .cont, ρ => I ρ
  | .brk, ρ => K .next ρ
  | .ret d, ρ => K (.ret d) ρ
inductive kLess (I : Nat → Rho → Prop) (m : Nat) (ρ : Rho) : Prop
  | mk (m' : Nat) (h : m' < m) (i : I m' ρ)
/-- while, with a measure that falls -/
theorem SV.while {pos : Pos} {t : Expr} {body : List Stmt} (I : Nat → Rho → Prop) (m₀ : Nat) (h0 : I m₀ ρ)
    (h : ∀ m ρ, I m ρ → TV w n sc κ ρ t (kIte (SVs w n sc κ ρ body (kLoop (kLess I m) K)) (K .next ρ))) : SV w n sc κ ρ (.While t body [] pos) K := by
  constructor
  intro A env F W ad s hs b f R
  refine wpAny_While ?_
  refine codeAny_whileLoop (fun m s' => PS w env κ F W s (fun _ => I m) .next s') (fun m s1 hI => ?_) m₀ (.on h0 R R.stay)
  obtain ⟨F1, W1, ad1, ρ1, _, i1, _, R1, x1⟩ := hI
  refine wpAny_mono ((h m ρ1 i1).run A env _ s1 hs b f R1.rd) (fun c s2 p2 => ?_) fun _ _ x => x.elim
  obtain ⟨G2, h2, x2⟩ := p2
  obtain ⟨R2, y2⟩ := R1.ext2 x2
  cases c with
  | false => exact wpAny_execs_nil (.on h2 R2 (x1.trans y2))
  | true =>
    refine wpAny_mono (SVs.on h2 hs b f R2 (x1.trans y2)) (fun fl s3 p3 => ?_) fun _ _ x => x.elim
    obtain ⟨F3, W3, ad3, ρ3, g, k, r, R3, X⟩ := p3
    have again : kLess I m ρ3 → ∃ m', m' < m ∧ PS w env κ F W s (fun _ => I m') .next s3 := fun ⟨m', hm, i'⟩ => ⟨m', hm, .on i' R3 X⟩
    refine r.go (K := (kLoop (kLess I m) K · ρ3)) k (fun k => ?_) (fun k => ?_) (fun k => ?_) fun _ _ r k => ?_
    · exact again k
    · exact .on k R3 X
    · exact again k
    · exact ⟨_, _, _, _, _, k, .ret r, R3, X⟩

/-- a list that the frame changed is changed no more -/
theorem Fo.freeze (R : Fo w env F W ad κ ρ s) {x : Str} {xs : List D} {ρ' : Rho} (hx : (x, Ent.ml xs) ∈ ρ) (P : Put ρ x (.v (some (.list xs))) ρ') :
    Fo w env (Plus F (ad x)) (fun a => W a ∧ a ≠ ad x) ad κ ρ' s := by
  obtain ⟨S₀, wa, hi, vs, hl, r⟩ := R.ents x _ hx
  obtain ⟨m, hn⟩ := R.ns
  have hS : ∀ {y : Str} {v : Value}, SlotAt env s.heap W y v → SlotAt env s.heap (fun a => W a ∧ a ≠ ad x) y v := fun S => by
    cases S with
    | loc hk hn hm => exact .loc hk hn hm
    | cel hk hx hc wc hv => exact .cel hk hx hc ⟨wc, fun q => lst_ne_cell hv hl q.symm⟩ hv
  have hD : ∀ {y : Str}, DeclAt env s.heap W y → DeclAt env s.heap (fun a => W a ∧ a ≠ ad x) y := fun S => by
    cases S with
    | loc hk => exact .loc hk
    | cel hk hx hc wc hv => exact .cel hk hx hc ⟨wc, fun q => lst_ne_cell hv hl q.symm⟩ hv
  exact R.put P R.inv (fun a h => h.elim (R.fz a) fun q => R.wz a (q ▸ wa)) (fun a h => h.elim (fun h q => R.fw a h q.1) fun h q => q.2 h) (fun a h => R.wz a h.1) ⟨R.wl, fun q => lst_ne_ns hn hl q.symm⟩ R.ns
    ⟨_, hS S₀, .list (.inr rfl) hl.isList (r.mono (fun _ _ _ e => e) fun _ h => .inl h)⟩ (fun _ _ _ e => e) (fun _ h => .inl h) (fun _ _ => rfl) (fun _ _ _ S => hS S) (fun _ _ D => hD D)
    (fun y e hne hm he _ wa l => ⟨⟨wa, fun q => hne (R.sep y x _ _ he rfl hm hx q)⟩, l⟩) (fun _ _ _ _ _ _ _ _ wa wd _ ho hn => ⟨⟨⟨wa, inst_ne_lst hl ho⟩, wd, fun q => lst_ne_ns hn.ns hl q.symm⟩, ho, hn⟩)
    (fun _ _ _ nc hv => ⟨fun q => nc q.1, hv⟩) (R.sepP P fun q => absurd q Bool.noConfusion) (R.oneP P fun q => absurd q Bool.noConfusion)
theorem SVs.freeze {ss : List Stmt} {x : Str} {xs : List D} {ρ' : Rho} (hx : (x, Ent.ml xs) ∈ ρ) (P : Put ρ x (.v (some (.list xs))) ρ') (h : SVs w n sc κ ρ' ss K) : SVs w n sc κ ρ ss K := by
  constructor
  intro A env F W ad s hs b f R
  have y := R.stay
  exact h.on hs b f (R.freeze hx P) ⟨y.there, y.keep, y.tab, y.gens, y.os, fun a h => .inl h, fun a h => h.elim .inl fun h => .inr (.inl (h ▸ (R.ents x _ hx).own)), fun a h => .inl h.1, fun a h => R.wthere a h.1⟩

/-- the frame's own list, changed in place -/
theorem Fo.touch (R : Fo w env F W ad κ ρ s) {x : Str} {xs xs' : List D} {ρ' : Rho} (hx : (x, Ent.ml xs) ∈ ρ) (P : Put ρ x (.ml xs') ρ') {h' : Heap} (hs : Heap.SameBut (ad x) s.heap h') {vs' : List Value} (hl' : LstAt h' (ad x) vs')
    (r' : RepL s.heap F vs' xs') (hi' : ∀ d ∈ xs', d.imm = true) (t : Nat) : Fo w env F W ad κ ρ' { s with heap := h', toks := t } ∧ Adv w W s F { s with heap := h', toks := t } F := by
  obtain ⟨S₀, wa, hi, vs, hl, r⟩ := R.ents x _ hx
  obtain ⟨m, hn⟩ := R.ns
  obtain ⟨o, k, ho, hd⟩ := hl.data
  obtain ⟨o', k', ho', _⟩ := hl'.data
  have hL : env.locals ≠ ad x := fun q => lst_ne_ns hn hl q.symm
  have hS : ∀ {y : Str} {v : Value}, SlotAt env s.heap W y v → SlotAt env h' W y v := fun S => S.but hs hL fun _ _ _ hv q => lst_ne_cell hv hl q.symm
  exact R.putBut P wa ho (fun vs q => nomatch hd.symm.trans q) hs ho' t ⟨m, hn.at fun o e => (hs.2 _ hL).trans e⟩ ⟨hS S₀, wa, hi', vs', hl', r'.mono (R.keepF wa hs) fun _ h => h⟩ (fun _ _ _ S => hS S)
    (fun _ _ D => D.but hs fun _ _ _ hv q => lst_ne_cell hv hl q.symm) (fun y e _ hne hm he _ q => hne (R.sep y x _ _ he rfl hm hx q)) (fun _ _ _ _ _ _ _ _ _ ho hn => ⟨inst_ne_lst hl ho, fun q => lst_ne_ns hn.ns hl q.symm⟩)
    (fun _ => ⟨_, rfl, hx⟩) (fun q => absurd q Bool.noConfusion)
end
end Mine
end

noncomputable section
--# Lb12
namespace Mine
open PySem PySem.W PyProof.Rows PySem.Calls

theorem LstAt.plain {h : Heap} {a : Nat} {vs : List Value} (x : LstAt h a vs) : h.PlainList a vs.toArray := by
  obtain ⟨⟨c, d, dt, sl⟩, k, ho, hc, ⟨h1, h2⟩, hd⟩ := x
  simp only at hc h1 h2 hd
  subst hc h1 h2 hd
  exact ⟨k, ho⟩
theorem LstAt.ofPlain {h : Heap} {a : Nat} {vs : List Value} (x : h.PlainList a vs.toArray) : LstAt h a vs := let ⟨k, e⟩ := x; ⟨_, k, e, rfl, ⟨rfl, rfl⟩, rfl⟩

section
variable {w : Wd} {n : Nat} {sc : Scope} {κ : Env2} {ρ : Rho} {K : Fl → Rho → Prop} {env : Env} {F W G' : Nat → Prop} {ad : Str → Nat} {s s' : Shared}

theorem looks_bi {s : Shared} {id : String} : ∃ k, Looks (MM w) s.heap (keeperOf (.builtin id)) k := ⟨.machine, Looks.of_pure rfl⟩

abbrev kApp (ρ : Rho) (x : Str) (xs : List D) (K : Fl → Rho → Prop) (d : D) : Prop := d.imm = true ∧ Asg ρ x (.ml (xs ++ [d])) K
inductive kOne (Q : D → Prop) : List D → Prop
  | mk (d : D) (q : Q d) : kOne Q [d]
theorem kOne.elim {Q : D → Prop} {s : Shared} {G : Nat → Prop} {ds : List D} {vs : List Value} (q : kOne Q ds) (r : RepL s.heap G vs ds) {C : List Value → Prop} (k : ∀ d v, Q d → Rep s.heap G v d → C [v]) : C vs :=
  kOne.casesOn (motive := fun ds _ => RepL s.heap G vs ds → C vs) q (fun d q r => RepL.oneE (motive := fun vs _ => C vs) (fun r => k d _ q r) r) r
/-- the frame's own list -/
theorem Fo.ml (R : Fo w env F W ad κ ρ s) {x : Str} {xs : List D} (hx : (x, Ent.ml xs) ∈ ρ) : ∃ vs, VarAt w env s.heap x (.ref (ad x)) ∧ (∀ d ∈ xs, d.imm = true) ∧ LstAt s.heap (ad x) vs ∧ RepL s.heap F vs xs := by
  obtain ⟨S₀, _, him, vs, hl, r⟩ := R.ents x _ hx
  exact ⟨vs, S₀.var (R.wz _ R.wl).1 fun a h => (R.wz a h).1, him, hl, r⟩
/-- xs.append(e) -/
theorem SV.append {x : Str} {p ap cp pos : Pos} {e : Expr} {xs : List D} (hx : (x, Ent.ml xs) ∈ ρ) (hlen : xs.length ≤ sizeLine) (h : EV w n sc κ ρ e (kApp ρ x xs K))
    (he : ∀ env, ∃ pl, eval (.Call (.Attribute (.Name x p) "append" ap) [e] [] cp) env = (do
      let ov ← eval (.Name x p) env
      standAt ap.atName
      let (f, first) ← holding [ov] (getMethod ov "append" pl)
      callWith cp f first (backTo cp (starEach [e] env)) []) := by intro _; exact ⟨_, rfl⟩)
    (hse : ∀ env, starEach [e] env = (false, eval e env) :: starEach [] env := by intro _; rfl)
    (hst : ∀ env, (starEach [e] env).any (·.1) = false := by intro _; rfl)
    (hi : ∀ env : Env, env.scope = sc → env.globals = 3 → interactive env = false := by intro _ _ _; rfl)
    (hd : (x == ("__debug__" : Str)) = false := by decide +kernel) : SV w n sc κ ρ (.Expr (.Call (.Attribute (.Name x p) "append" ap) [e] [] cp) pos) K := by
  constructor
  intro A env F W ad s hs b f R
  obtain ⟨pl, he⟩ := he env
  obtain ⟨vs, V, him, hl, r⟩ := R.ml hx
  obtain ⟨o, k, ho, hc, hdn, _⟩ := id hl
  refine wpAny_Expr_any (MethodCall_ (pl := pl) (wpAny_Name (wp_loadName R.inv R.st V (getMethod_list_append ho hc hdn.1 ?_)) hd) he) (hi env hs R.st.glob)
  refine callWith_gen (starEach_plain [e] env cp hst) (evalArgs_gen (starEach_plain [e] env cp hst) ((EVs.cons (h.mono (Q' := kEVs w n sc κ ρ [] (kOne (kApp ρ x xs K))) fun d q => EVs.nil ⟨d, q⟩) hse).then hs b f R.rd fun vs2 s2 G2 ds q r2 x2 _ => ?_))
  refine ⟨looks_bi, ?_⟩
  obtain ⟨R2, y2⟩ := R.ext2 x2
  refine q.elim (C := fun vs2 => wpAny (MM w) A (call (.builtin "list.append") (.ref (ad x) :: vs2)) _ _ s2) r2 fun d v q rd => ?_
  obtain ⟨hdi, ρ', P, kk⟩ := q
  obtain ⟨vs', _, him2, hl2, r2'⟩ := R2.ml hx
  refine wpAny_list_append_plain hl2.plain (fun h' hp hsb => ?_) (Nat.le_trans (Nat.le_of_eq r2'.length) hlen)
  rw [List.push_toArray] at hp
  obtain ⟨R3, av⟩ := R2.touch (t := s2.toks) hx P hsb (LstAt.ofPlain hp) (r2'.append (.cons (rd.imm hdi) .nil)) (fun d' hm => (List.mem_append.mp hm).elim (him2 d') fun q => List.mem_singleton.mp q ▸ hdi)
  exact .on kk R3 (y2.trans (av.stp R2.wthere))

theorem mapSeq_rev (its : Array Value) (n : Nat) : ∃ k, Obj.mapSeq (fun x => x.reverse) ({ cls := .type "list", data := .seq its n } : Obj) = { cls := .type "list", data := .seq its.reverse k } := by
  simp [Obj.mapSeq]

/-- xs.reverse() -/
theorem SV.reverse {x : Str} {p ap cp pos : Pos} {xs : List D} {ρ' : Rho} (hx : (x, Ent.ml xs) ∈ ρ) (hlen : xs.length ≤ sizeLine) (P : Put ρ x (.ml xs.reverse) ρ') (kk : K .next ρ')
    (he : ∀ env, ∃ pl, eval (.Call (.Attribute (.Name x p) "reverse" ap) [] [] cp) env = (do
      let ov ← eval (.Name x p) env
      standAt ap.atName
      let (f, first) ← holding [ov] (getMethod ov "reverse" pl)
      callWith cp f first (backTo cp (starEach [] env)) []) := by intro _; exact ⟨_, rfl⟩)
    (hi : ∀ env : Env, env.scope = sc → env.globals = 3 → interactive env = false := by intro _ _ _; rfl)
    (hd : (x == ("__debug__" : Str)) = false := by decide +kernel) : SV w n sc κ ρ (.Expr (.Call (.Attribute (.Name x p) "reverse" ap) [] [] cp) pos) K := by
  constructor
  intro A env F W ad s hs b f R
  obtain ⟨pl, he⟩ := he env
  obtain ⟨vs, V, him, hl, r⟩ := R.ml hx
  obtain ⟨k, ho⟩ := hl.plain
  refine wpAny_Expr_any (MethodCall_ (pl := pl) (wpAny_Name (wp_loadName R.inv R.st V ?_) hd) he) (hi env hs R.st.glob)
  refine getMethod_builtin ⟨_, ho, rfl⟩ PySem.F.plainAttrs_list PySem.F.slot_list_reverse PySem.F.type_list_reverse (fun a e => Value.ref.inj e ▸ ⟨_, ho, rfl⟩) ?_
  refine callWith_gen (by rfl) (evalArgs_gen (by rfl) (wpAny_items_nil ?_))
  refine ⟨looks_bi, ?_⟩
  show wpAny _ _ (call (.builtin "list.reverse") [.ref (ad x)]) _ _ _
  refine call_meets PySem.F.slot_list_reverse ⟨_, ho, rfl⟩ PySem.F.entry_list_reverse (PySem.F.args_list_reverse_1 _) (AutoSeq1.list_reverse_list_0 (ad x) vs.toArray k (Nat.le_trans (Nat.le_of_eq r.length) hlen)) ⟨ho, ?_⟩
  obtain ⟨k', hm⟩ := mapSeq_rev vs.toArray k
  have hp' : LstAt (s.heap.update (ad x) (Obj.mapSeq fun x => x.reverse)) (ad x) vs.reverse := LstAt.ofPlain ⟨k', by
    rw [Heap.get?_update_self _ ho (by rw [hm]; rfl), hm, List.reverse_toArray]⟩
  obtain ⟨R3, av⟩ := R.touch (t := s.toks) hx P (Heap.SameBut.update ..) hp' r.reverse (fun d' hm => him d' (List.mem_reverse.mp hm))
  exact .on kk R3 (av.stp R.wthere)

theorem wp_setItem {A : Around} {E : Value → Shared → Prop} {l : Nat} {vs : List Value} {i : Int} {t : Tok} {v : Value} {Q : Unit → Shared → Prop} (hl : LstAt s.heap l vs) (h0 : 0 ≤ i) (hf : i < 2 ^ 63) (hn : i.toNat < vs.length)
    (hq : ∀ h', LstAt h' l (vs.set i.toNat v) → Heap.SameBut l s.heap h' → Q () { s with heap := h' }) : wpAny (MM w) A (setItem (.ref l) (.int i t) v) Q E s := by
  obtain ⟨k, ho⟩ := hl.plain
  have hT : s.TypeIs (.ref l) "list" := ⟨_, ho, rfl⟩
  unfold setItem
  try with_reducible refine wpAny_holding ?_
  first | refine wpAny_bind (wpAny_pure ?_) | skip
  refine wpAny_bind (wpAny_sequenceKey hT (by decide) ?_)
  refine wpAny_bind (wpAny_callSpecial?_slot (name := Str.ofString "__setitem__") hT slot_list_setitem (wpAny_call_entry slot_list_setitem hT entry_list_setitem ?_ (args_list_setitem _ _ _)))
  show wpAny _ _ (Builtin.List.listSubscript? (.int i t) >>= _) _ _ s
  refine wpAny_bind (wpAny_listSubscript_int (fitsIndex_of h0 hf) ?_)
  clear hf
  obtain ⟨j, rfl⟩ := Int.eq_ofNat_of_zero_le h0
  have hn' : j < vs.length := hn
  show wpAny _ _ ((seqItemAt l j >>= fun r => pure (r.map (j, ·))) >>= _) _ _ s
  refine wpAny_bind (wpAny_bind (wpAny_seqItemAt ho rfl (wpAny_pure ?_)))
  have hx : vs.toArray[j]? = some vs[j] := by simp [hn']
  rw [hx]
  show wpAny _ _ (setSeqItemAt l j v >>= _) _ _ s
  obtain ⟨k', hm⟩ : ∃ k', Obj.mapSeq (·.setIfInBounds j v) ({ cls := .type "list", data := .seq vs.toArray k } : Obj) = { cls := .type "list", data := .seq (vs.set j v).toArray k' } := by
    simp [Obj.mapSeq]
  have fin : LstAt (s.heap.update l (Obj.mapSeq (·.setIfInBounds j v))) l (vs.set j v) := LstAt.ofPlain ⟨k', by rw [Heap.get?_update_self _ ho (by rw [hm]; rfl), hm]⟩
  refine wpAny_bind (wpAny_setSeqItemAt ho rfl ?_)
  first
    | exact wpAny_bind (wpAny_pure (wpAny_pure ⟨.none, rfl, wpAny_pure (hq _ fin (Heap.SameBut.update ..))⟩))
    | exact wpAny_pure ⟨.none, rfl, wpAny_pure (hq _ fin (Heap.SameBut.update ..))⟩

theorem RepL.set {h : Heap} {G : Nat → Prop} {vs : List Value} {ds : List D} (r : RepL h G vs ds) {v : Value} {d : D} (i : Nat) (q : Rep h G v d) : RepL h G (vs.set i v) (ds.set i d) :=
  List.rec (motive := fun ds => ∀ {vs : List Value}, RepL h G vs ds → ∀ i, RepL h G (vs.set i v) (ds.set i d)) (fun r _ => r.nilE .nil)
    (fun _ _ ih _ r => r.consE fun r rs i => Nat.casesOn (motive := fun i => RepL h G (List.set (_ :: _) i v) (List.set (_ :: _) i d)) i (.cons q rs) fun i => .cons r (ih rs i)) ds r i

inductive kIdx (ρ : Rho) (x : Str) (xs : List D) (K : Fl → Rho → Prop) (d di : D) : Prop
  | mk (j : Nat) (e : di = .int j) (hj : j < xs.length) (hj2 : (j : Int) < 2 ^ 63) (q : Asg ρ x (.ml (xs.set j d)) K)
abbrev kSet (w : Wd) (n : Nat) (sc : Scope) (κ : Env2) (ρ : Rho) (x : Str) (xs : List D) (i : Expr) (K : Fl → Rho → Prop) (d : D) : Prop := d.imm = true ∧ EV w n sc κ ρ i (kIdx ρ x xs K d)
/-- xs[i] = e -/
theorem SV.setItem {x : Str} {p tp pos : Pos} {i e : Expr} {xs : List D} (hx : (x, Ent.ml xs) ∈ ρ) (h : EV w n sc κ ρ e (kSet w n sc κ ρ x xs i K))
    (hw : ∀ env, swapsWith e (some (.Subscript (.Name x p) i tp)) pos.line env = pure false := by intro _; rfl)
    (hd : (x == ("__debug__" : Str)) = false := by decide +kernel) : SV w n sc κ ρ (.Assign [.Subscript (.Name x p) i tp] e pos) K := by
  constructor
  intro A env F W ad s hs b f R
  refine wpAny_Assign_Subscript (h.in2 hs b f R fun v s1 G1 d q r1 x1 R1 y1 => ?_) (hw env)
  obtain ⟨_, V, _⟩ := R1.ml hx
  refine wpAny_Name (wp_loadName R1.inv R1.st V (q.2.in2 hs b f R1 fun vi s2 G2 di q2 r2 x2 R2 y2 => ?_)) hd
  obtain ⟨j, rfl, hj, hj2, ρ', P, kk⟩ := q2
  obtain ⟨vs', _, him2, hl2, r2'⟩ := R2.ml hx
  cases r2 using Rep.intE with | int t =>
    refine wp_setItem hl2 (Int.natCast_nonneg j) hj2 (r2'.length.symm ▸ hj) fun h' hp hsb => ?_
    obtain ⟨R3, av⟩ := R2.touch (t := s2.toks) hx P hsb hp (r2'.set _ (r1.imm q.1)) (fun d' hm => (List.mem_or_eq_of_mem_set hm).elim (him2 d') fun e => e ▸ q.1)
    exact .on kk R3 ((y1.trans y2).trans (av.stp R2.wthere))

/-- the two items of a pair -/
theorem pair_items {A : Around} {E : Value → Shared → Prop} {t : Nat} {a b : Value} {Q : List Value → Shared → Prop} (hh : A.handled = none) (ht : IsTup s.heap t #[a, b]) (i : Inv w s) (F : Nat → Prop) (z : Gz w F s)
    (hq : ∀ s', Ext w s F s' F → Q [a, b] s') : wpAny (MM w) A (unpackItems (.ref t) 2 none) Q E s := by
  refine unpackItems_tuple (items := #[a, b]) hh ht fun h' he => hq _ ?_
  have k : ∀ b o, s.heap.get? b = some o → h'.get? b = some o := fun b o e => he b o (Nat.ne_of_lt (Heap.lt_size e)) e
  exact Ext.heap i k s.toks

inductive kPair (ρ : Rho) (x1 x2 : Str) (K : Fl → Rho → Prop) (d : D) : Prop
  | mk (d1 d2 : D) (e : d = .tup [d1, d2]) (ρ1 ρ2 : Rho) (P1 : Put ρ x1 (.v (some d1)) ρ1) (P2 : Put ρ1 x2 (.v (some d2)) ρ2) (k : K .next ρ2)
inductive kPairS (ρ : Rho) (x1 x2 : Str) (K : Fl → Rho → Prop) (d : D) : Prop
  | mk (d1 d2 : D) (e : d = .tup [d1, d2]) (ρ1 ρ2 : Rho) (P1 : Put ρ x2 (.v (some d2)) ρ1) (P2 : Put ρ1 x1 (.v (some d1)) ρ2) (k : K .next ρ2)
/-- two stores, one behind the other -/
theorem Fo.store2 (R : Fo w env F W ad κ ρ s) {x1 x2 : Str} {d1 d2 : D} {ρ1 ρ2 : Rho} (P1 : Put ρ x1 (.v (some d1)) ρ1) (P2 : Put ρ1 x2 (.v (some d2)) ρ2) {v1 v2 : Value} (r1 : Rep s.heap F v1 d1) (r2 : Rep s.heap F v2 d2) {A : Around} {E : Value → Shared → Prop} {f1 f2 : Value → Sem Unit} {Q : Unit → Shared → Prop}
    (h1 : ∀ {s : Shared} {v : Value} {Q : Unit → Shared → Prop}, wpAny (MM w) A (storeName env x1 v) Q E s → wpAny (MM w) A (f1 v) Q E s) (h2 : ∀ {s : Shared} {v : Value} {Q : Unit → Shared → Prop}, wpAny (MM w) A (storeName env x2 v) Q E s → wpAny (MM w) A (f2 v) Q E s)
    (q : ∀ s', Fo w env F W ad κ ρ2 s' → Stp F W s F W s' → Q () s') : wpAny (MM w) A (assignInOrder [f1, f2] [v1, v2]) Q E s :=
  assignInOrder_cons (h1 (R.store P1 r1 fun s3 R3 a3 => assignInOrder_cons (h2 (R3.store P2 (r2.mono (a3.keepsOn (fun a h => (R.fz a h).1) R.fw) a3.sub) fun s4 R4 a4 => assignInOrder_nil (q s4 R4 ((a3.stp R.wthere).trans (a4.stp R3.wthere)))))))
@[elab_as_elim] theorem tup_pair {h : Heap} {G : Nat → Prop} {v : Value} {d1 d2 : D} {C : Value → Prop} (r : Rep h G v (.tup [d1, d2])) (k : ∀ a va vb, IsTup h a #[va, vb] → Rep h G va d1 → Rep h G vb d2 → C (.ref a)) : C v := by
  cases r using Rep.tupE with | tup ga ht rs =>
  cases rs using RepL.twoE with | two ra rb => exact k _ _ _ ht ra rb
theorem Fo.upx {s' : Shared} {G' : Nat → Prop} (R : Fo w env F W ad κ ρ s) (X : Ext w s F s' G') {v : Value} {d : D} (r : Rep s.heap F v d) : Rep s'.heap (Bar G' W) v d := (X.rep R.fz r).mono (fun _ _ _ e => e) (R.clean X)
/-- a pair taken apart and stored -/
theorem Fo.unpack2 (R : Fo w env F W ad κ ρ s) {x1 x2 : Str} {d1 d2 : D} {ρ1 ρ2 : Rho} (P1 : Put ρ x1 (.v (some d1)) ρ1) (P2 : Put ρ1 x2 (.v (some d2)) ρ2) {v : Value} (r : Rep s.heap F v (.tup [d1, d2])) {A : Around} (hh : A.handled = none) {E : Value → Shared → Prop} {p1 p2 tp : Pos} {k : Nat} {Q : Unit → Shared → Prop}
    (q : ∀ F' s', Fo w env F' W ad κ ρ2 s' → Stp F W s F' W s' → Q () s') : wpAny (MM w) A (assign (.Tuple [.Name x1 p1, .Name x2 p2] k tp) env v) Q E s := by
  refine tup_pair r fun a va vb ht ra rb => ?_
  rw [PyProof.Rows.assign_Tuple]
  refine wpAny_bind (wpAny_standAt ?_)
  show wpAny _ _ (unpack _ _) _ _ _
  unfold unpack
  refine wpAny_bind (wpAny_holding (pair_items hh ht R.inv _ R.fz fun s2 X => ?_))
  obtain ⟨R2, z2⟩ := R.ext0 X
  exact R2.store2 P1 P2 (R.upx X ra) (R.upx X rb) PyProof.Rows.assign_Name PyProof.Rows.assign_Name fun s4 R4 a4 => q _ s4 R4 (z2.trans a4)
/-- x1, x2 = e -/
theorem SV.asg2 {x1 x2 : Str} {p1 p2 tp pos : Pos} {k : Nat} {e : Expr} (h : EV w n sc κ (dropMl ρ) e (kPair ρ x1 x2 K))
    (hw : ∀ env, env.scope = sc → swapsWithSole [.Tuple [.Name x1 p1, .Name x2 p2] k tp] e pos.line env = pure false := by intro _ _; rfl)
    (hs2 : ∀ env, env.scope = sc → swappedStores [.Tuple [.Name x1 p1, .Name x2 p2] k tp] e env = pure none := by intro _ _; rfl) :
    SV w n sc κ ρ (.Assign [.Tuple [.Name x1 p1, .Name x2 p2] k tp] e pos) K := by
  constructor
  intro A env F W ad s hs b f R
  refine Assign_Tuple (h.in0 hs b f R fun v s1 G1 d q r R1 z1 => ?_) (hw env hs) (hs2 env hs)
  obtain ⟨d1, d2, rfl, ρ1, ρ2, P1, P2, kk⟩ := q
  exact R1.unpack2 P1 P2 r b.hnd fun _ _ R4 z => .on kk R4 (z1.trans z)
/-- x1, x2 = (.., ..): the stores from the last on -/
theorem SV.asg2s {x1 x2 : Str} {p1 p2 tp pos : Pos} {k : Nat} {e : Expr} (h : EV w n sc κ (dropMl ρ) e (kPairS ρ x1 x2 K))
    (hs2 : ∀ env, env.scope = sc → swappedStores [.Tuple [.Name x1 p1, .Name x2 p2] k tp] e env = pure (some [x1, x2]))
    (hw : ∀ env, env.scope = sc → swapsWithSole [.Tuple [.Name x1 p1, .Name x2 p2] k tp] e pos.line env = pure false := by intro _ _; rfl) :
    SV w n sc κ ρ (.Assign [.Tuple [.Name x1 p1, .Name x2 p2] k tp] e pos) K := by
  constructor
  intro A env F W ad s hs b f R
  refine Assign_Tuple_swapped (h.in0 hs b f R fun v s1 G1 d q r R1 z1 => ?_) (hw env hs) (hs2 env hs)
  obtain ⟨d1, d2, rfl, ρ1, ρ2, P1, P2, kk⟩ := q
  refine tup_pair r fun a va vb ht ra rb => ?_
  refine pair_items b.hnd ht R1.inv _ R1.fz fun s2 X => ?_
  obtain ⟨R2, z2⟩ := R1.ext0 X
  show wpAny _ _ (assignInOrder [fun v => bindName env x2 v, fun v => bindName env x1 v] [vb, va]) _ _ _
  exact R2.store2 P1 P2 (R1.upx X rb) (R1.upx X ra) PyProof.Rows.bindName_ PyProof.Rows.bindName_ fun s4 R4 a4 => .on kk R4 ((z1.trans z2).trans a4)
end
end Mine
end

noncomputable section
--# Lb13
namespace Mine
open PySem PySem.W PyProof.Rows PySem.Calls

/-- steps that change no more than J and the generators Jg -/
structure AdvJ (w : Wd) (J : Nat → Prop) (Jg : Nat → Prop) (s : Shared) (G : Nat → Prop) (s' : Shared) (G' : Nat → Prop) : Prop where
  there : ∀ b o, ¬ J b → s.heap.get? b = some o → ∃ o', s'.heap.get? b = some o'
  keep : ∀ b o, s.heap.get? b = some o → ¬ J b → ¬ isTab b → s'.heap.get? b = some o
  tab : ∀ b, isTab b → TabStep s.heap s'.heap b
  gens : ∀ (i : Nat) x, ¬ Jg i → s.gens[i]? = some x → s'.gens[i]? = some x
  os : s'.os = s.os
  inv : Inv w s'
  sub : ∀ a, G a → G' a
  new : ∀ a, G' a → G a ∨ New s s' a
theorem Adv.j {w : Wd} {J G G' : Nat → Prop} {s s' : Shared} (x : Adv w J s G s' G') (Jg : Nat → Prop) : AdvJ w J Jg s G s' G' :=
  ⟨fun b o _ e => x.there b o e, x.keep, x.tab, fun i z _ e => x.gens i z e, x.os, x.inv, x.sub, x.new⟩

/-- J's things stand there, apart from G -/
noncomputable def JOk (w : Wd) (J G : Nat → Prop) (s : Shared) : Prop := ∀ a, J a → ¬ G a ∧ Own w a ∧ ∃ o, s.heap.get? a = some o
noncomputable def Th (J : Nat → Prop) (s : Shared) : Prop := ∀ a, J a → ∃ o, s.heap.get? a = some o
noncomputable def KeepsJ (J : Nat → Prop) (s s' : Shared) : Prop := ∀ a o, J a → s.heap.get? a = some o → s'.heap.get? a = some o
noncomputable def KeepsG (s s' : Shared) : Prop := ∀ (i : Nat) x, s.gens[i]? = some x → s'.gens[i]? = some x
/-- J is new since s -/
noncomputable def JNew (s s' : Shared) (G J : Nat → Prop) : Prop := ∀ a, J a → s.heap.get? a = none ∧ (∃ o, s'.heap.get? a = some o) ∧ ¬ G a
noncomputable def GNew (s : Shared) (Jg : Nat → Prop) : Prop := ∀ i, Jg i → s.gens[i]? = none
noncomputable def JOn (s s' : Shared) (G J J' : Nat → Prop) : Prop := ∀ a, J' a → (J a ∨ New s s' a) ∧ ¬ G a ∧ ∃ o, s'.heap.get? a = some o
inductive Got0 (w : Wd) (J Jg : Nat → Prop) (P : (Nat → Prop) → List D → Shared → Prop) (d : D) (ds : List D) (s : Shared) (G : Nat → Prop) (v : Value) (s2 : Shared) : Prop
  | mk (G' : Nat → Prop) (r : Rep s2.heap G' v d) (p : P G' ds s2) (a : AdvJ w J Jg s G s2 G') (t : Th J s2)
inductive Next0 (w : Wd) (A : Around) (tgt : Expr) (it : Value) (J Jg : Nat → Prop) (P : (Nat → Prop) → List D → Shared → Prop) (d : D) (ds : List D) (s : Shared) (G : Nat → Prop) (r : Option Value) (s1 : Shared) : Prop
  | mk (v : Value) (e : r = some v) (h : wpAny (MM w) A (letOwnedTupleGo tgt it v) (fun _ s2 => Got0 w J Jg P d ds s G v s2) NoE s1)
inductive GotJ (w : Wd) (J Jg : Nat → Prop) (P : (Nat → Prop) → (Nat → Prop) → List D → Shared → Prop) (d : D) (ds : List D) (s : Shared) (G : Nat → Prop) (v : Value) (s2 : Shared) : Prop
  | mk (G' J' : Nat → Prop) (r : Rep s2.heap G' v d) (p : P G' J' ds s2) (a : AdvJ w J Jg s G s2 G') (t : Th J s2) (n : JOn s s2 G' J J')
inductive NextJ (w : Wd) (A : Around) (tgt : Expr) (it : Value) (J Jg : Nat → Prop) (P : (Nat → Prop) → (Nat → Prop) → List D → Shared → Prop) (d : D) (ds : List D) (s : Shared) (G : Nat → Prop) (r : Option Value) (s1 : Shared) : Prop
  | mk (v : Value) (e : r = some v) (h : wpAny (MM w) A (letOwnedTupleGo tgt it v) (fun _ s2 => GotJ w J Jg P d ds s G v s2) NoE s1)
noncomputable def EndJ (w : Wd) (J Jg : Nat → Prop) (s : Shared) (G : Nat → Prop) (r : Option Value) (s1 : Shared) : Prop := r = none ∧ AdvJ w J Jg s G s1 G

/-- an iterator at work that owns no more than J -/
structure Itr0 (w : Wd) (n : Nat) (tgt : Expr) (it : Value) (J Jg : Nat → Prop) (P : (Nat → Prop) → List D → Shared → Prop) : Prop where
  stab : ∀ G G' ds s s', P G ds s → (∀ a, G a → G' a) → KeepsOn G s.heap s'.heap → KeepsJ J s s' → KeepsG s s' → P G' ds s'
  step : ∀ (A : Around) G d ds s, Bud A n → Frm A → Inv w s → Gz w G s → JOk w J G s → P G (d :: ds) s → wpAny (MM w) A (pyNext it) (Next0 w A tgt it J Jg P d ds s G) NoE s
  self : ∀ (A : Around) G ds (s : Shared) (Q : Value → Shared → Prop) (E : Value → Shared → Prop), P G ds s → Q it s → wpAny (MM w) A (pyIter it) Q E s
  stop : ∀ (A : Around) G s, Bud A n → Frm A → Inv w s → Gz w G s → JOk w J G s → P G [] s → wpAny (MM w) A (pyNext it) (EndJ w J Jg s G) NoE s

/-- an iterator at work, in these surroundings: what it owns may grow -/
structure Itr (w : Wd) (n : Nat) (A : Around) (tgt : Expr) (it : Value) (Jg : Nat → Prop) (P : (Nat → Prop) → (Nat → Prop) → List D → Shared → Prop) : Prop where
  stab : ∀ G G' J ds s s', P G J ds s → (∀ a, G a → G' a) → KeepsOn G s.heap s'.heap → KeepsJ J s s' → KeepsG s s' → P G' J ds s'
  step : ∀ G J d ds s, Bud A n → Frm A → Inv w s → Gz w G s → JOk w J G s → P G J (d :: ds) s → wpAny (MM w) A (pyNext it) (NextJ w A tgt it J Jg P d ds s G) NoE s
  self : ∀ G J ds (s : Shared) (Q : Value → Shared → Prop) (E : Value → Shared → Prop), P G J ds s → Q it s → wpAny (MM w) A (pyIter it) Q E s
  stop : ∀ G J s, Bud A n → Frm A → Inv w s → Gz w G s → JOk w J G s → P G J [] s → wpAny (MM w) A (pyNext it) (EndJ w J Jg s G) NoE s
theorem nay {h : Heap} {a : Nat} {o : Obj} (e : h.get? a = none) (q : h.get? a = some o) {C : Prop} : C := absurd (e.symm.trans q) (Option.some_ne_none o).symm
theorem Gz.nay {w : Wd} {G : Nat → Prop} {s : Shared} (z : Gz w G s) {a : Nat} (e : s.heap.get? a = none) (h : G a) : False := (z a h).2.elim fun _ q => Mine.nay e q
theorem Itr0.itr {w : Wd} {n : Nat} {tgt : Expr} {it : Value} {J Jg : Nat → Prop} {P : (Nat → Prop) → List D → Shared → Prop} (h : Itr0 w n tgt it J Jg P) (A : Around) : Itr w n A tgt it Jg (fun G J' ds s => J' = J ∧ P G ds s) where
  stab := fun G G' J' ds s s' p a b c d => ⟨p.1, h.stab G G' ds s s' p.2 a b (p.1 ▸ c) d⟩
  step := fun G J' d ds s b f i z jz p => by
    obtain ⟨rfl, p⟩ := p
    refine wpAny_mono (h.step A G d ds s b f i z jz p) (fun r s1 q => ?_) fun _ _ x => x
    obtain ⟨v, hv, h1⟩ := q
    refine ⟨v, hv, wpAny_mono h1 (fun _ s2 q => ?_) fun _ _ x => x⟩
    obtain ⟨G', r, p, a, t⟩ := q
    exact ⟨G', J', r, ⟨rfl, p⟩, a, t, fun c hc => ⟨.inl hc, fun q => (a.new c q).elim (jz c hc).1 fun q => (jz c hc).2.2.elim fun _ e => nay q.1 e, t c hc⟩⟩
  self := fun G J' ds s Q E p q => h.self A G ds s Q E p.2 q
  stop := fun G J' s b f i z jz p => by
    obtain ⟨rfl, p⟩ := p
    exact h.stop A G s b f i z jz p

inductive PostI (w : Wd) (n : Nat) (A : Around) (tgt : Expr) (s : Shared) (G : Nat → Prop) (Q : List D → Prop) (it : Value) (s' : Shared) : Prop
  | mk (G' : Nat → Prop) (ds : List D) (J Jg : Nat → Prop) (P : (Nat → Prop) → (Nat → Prop) → List D → Shared → Prop) (q : Q ds) (I : Itr w n A tgt it Jg P) (p : P G' J ds s') (x : Ext w s G s' G') (hJ : JNew s s' G' J) (hg : GNew s Jg)
/-- what a for goes through -/
structure IV (w : Wd) (n : Nat) (sc : Scope) (κ : Env2) (ρ : Rho) (tgt e : Expr) (Q : List D → Prop) : Prop where
  run : ∀ (A : Around) (env : Env) (G : Nat → Prop) (s : Shared), env.scope = sc → Bud A n → Frm A → Rd w env G κ ρ s → wpAny (MM w) A (eval e env) (fun x s1 => wpAny (MM w) A (pyIter x) (PostI w n A tgt s G Q) NoE s1) NoE s

theorem PostI.back {w : Wd} {n : Nat} {A : Around} {tgt : Expr} {s s₁ : Shared} {G G₁ : Nat → Prop} {Q : List D → Prop} {v : Value} {s' : Shared} (x : Ext w s G s₁ G₁) (p : PostI w n A tgt s₁ G₁ Q v s') : PostI w n A tgt s G Q v s' := by
  obtain ⟨G', ds, J, Jg, P, q, I, p, y, hJ, hg⟩ := p
  refine ⟨G', ds, J, Jg, P, q, I, p, x.trans y, fun a h => ⟨x.nay (hJ a h).1, (hJ a h).2⟩, fun i h => ?_⟩
  cases e : s.gens[i]? with
  | none => rfl
  | some z => exact absurd ((hg i h).symm.trans (x.gens i z e)) (Option.some_ne_none z).symm

inductive Stored (w : Wd) (env : Env) (κ : Env2) (F W : Nat → Prop) (ad : Str → Nat) (s : Shared) (ρ' : Rho) (s' : Shared) : Prop
  | mk (F' : Nat → Prop) (R : Fo w env F' W ad κ ρ' s') (x : Stp F W s F' W s')
/-- a target stored -/
structure AS (w : Wd) (n : Nat) (sc : Scope) (κ : Env2) (ρ : Rho) (tgt : Expr) (d : D) (ρ' : Rho) : Prop where
  run : ∀ (A : Around) (env : Env) (F W : Nat → Prop) (ad : Str → Nat) (s : Shared) (v : Value), env.scope = sc → Bud A n → Fo w env F W ad κ ρ s → Rep s.heap F v d →
    wpAny (MM w) A (assign tgt env v) (fun _ s' => Stored w env κ F W ad s ρ' s') NoE s

section
variable {w : Wd} {n : Nat} {sc : Scope} {κ : Env2} {ρ : Rho} {K : Fl → Rho → Prop} {env : Env} {F W G' : Nat → Prop} {ad : Str → Nat} {s s' : Shared}

theorem AS.name {x : Str} {p : Pos} {d : D} {ρ' : Rho} (P : Put ρ x (.v (some d)) ρ') : AS w n sc κ ρ (.Name x p) d ρ' :=
  ⟨fun A env F W ad s v hs b R r => PyProof.Rows.assign_Name (R.store P r fun s' R' a => ⟨F, R', a.stp R.wthere⟩)⟩
theorem AS.pair {x1 x2 : Str} {p1 p2 tp : Pos} {k : Nat} {d1 d2 : D} {ρ1 ρ2 : Rho} (P1 : Put ρ x1 (.v (some d1)) ρ1) (P2 : Put ρ1 x2 (.v (some d2)) ρ2) : AS w n sc κ ρ (.Tuple [.Name x1 p1, .Name x2 p2] k tp) (.tup [d1, d2]) ρ2 :=
  ⟨fun _ _ _ _ _ _ _ _ b R r => R.unpack2 P1 P2 r b.hnd fun _ _ R' x => ⟨_, R', x⟩⟩

theorem ConAt.cell {h : Heap} {y : Str} {v : Value} {c : Nat} (C : ConAt w env h W y v) (hk : env.kindOf y = some .cell ∨ env.kindOf y = some .free) (hc : env.cells.lookup y = some c) : Own w c ∧ ¬ W c ∧ h.IsCell c (some v) := by
  cases C with
  | fre hk2 hx2 hc2 oc nc hv => exact Option.some.inj (hc2.symm.trans hc) ▸ ⟨oc, nc, hv⟩
  | glo hk2 hg => exact hk.elim (fun q => nomatch q.symm.trans hk2) fun q => nomatch q.symm.trans hk2
/-- no captured cell is one of J -/
noncomputable def CellOff (κ : Env2) (env : Env) (J : Nat → Prop) : Prop := ∀ y d c, (y, d) ∈ κ → (env.kindOf y = some .cell ∨ env.kindOf y = some .free) → env.cells.lookup y = some c → ¬ J c
theorem Fo.cellNew (R : Fo w env F W ad κ ρ s) {J : Nat → Prop} (h : ∀ a, J a → s.heap.get? a = none) : CellOff κ env J :=
  fun y d c hm hk hc q => (R.cons y d hm).elim fun _ p => (p.1.cell hk hc).2.2.elim fun _ e => nay (h c q) e.1
theorem Fo.nayW (R : Fo w env F W ad κ ρ s) {a : Nat} (e : s.heap.get? a = none) : ¬ W a := R.wz.nay e
/-- a frame while others' things change -/
theorem Fo.stepJ (R : Fo w env F W ad κ ρ s) {J Jg : Nat → Prop} {F' : Nat → Prop} (a : AdvJ w J Jg s F s' F') (jF : ∀ a, J a → ¬ F a) (jW : ∀ a, J a → ¬ W a) (jc : CellOff κ env J) : Fo w env F' W ad κ ρ s' :=
  R.move a.inv (fun b o h e => a.keep b o e (fun q => jF b q h) (R.fz b h).1.notTab) (fun b o h e => a.keep b o e (fun q => jW b q h) (R.wz b h).1.notTab) (fun y d c o hm hk hc oc e => a.keep c o e (jc y d c hm hk hc) oc.notTab) a.sub
    (fun b h => (a.new b h).elim (fun h => ⟨(R.fz b h).1, (R.fz b h).2.elim fun o e => a.there b o (fun q => jF b q h) e⟩) fun h => ⟨R.inv.own h.1, h.2⟩) fun b h q => (a.new b h).elim (fun h => R.fw b h q) fun h => R.nayW h.1 q
/-- J's things are new since s, and none of the frame's -/
noncomputable def JZ (s s' : Shared) (F W J : Nat → Prop) : Prop := ∀ a, J a → s.heap.get? a = none ∧ (∃ o, s'.heap.get? a = some o) ∧ ¬ F a ∧ ¬ W a
theorem Stp.thenJ {F' W' F3 J Jg : Nat → Prop} {s s2 s3 : Shared} (X : Stp F W s F' W' s2) (a : AdvJ w J Jg s2 F' s3 F3) (hJ : JZ s s2 F' W' J) (hg : GNew s Jg) : Stp F W s F3 W' s3 where
  there := fun b o e => (X.there b o e).elim fun o' e' => a.there b o' (fun q => Mine.nay (hJ b q).1 e) e'
  keep := fun b o e nw nt => a.keep b o (X.keep b o e nw nt) (fun q => Mine.nay (hJ b q).1 e) nt
  tab := fun b hb => (X.tab b hb).trans (a.tab b hb)
  gens := fun i z e => a.gens i z (fun q => absurd ((hg i q).symm.trans e) (Option.some_ne_none z).symm) (X.gens i z e)
  os := a.os.trans X.os
  fsub := fun b h => a.sub b (X.fsub b h)
  fnew := fun b h => (a.new b h).elim (fun h => (X.fnew b h).elim .inl fun q => .inr (q.elim .inl fun q => .inr ⟨q.1, q.2.elim fun o e => a.there b o (fun j => (hJ b j).2.2.1 h) e⟩)) fun h => .inr (.inr ⟨X.nay h.1, h.2⟩)
  wnew := X.wnew
  wz := fun b h => (X.wz b h).elim fun o e => a.there b o (fun q => (hJ b q).2.2.2 h) e

inductive kTurn (w : Wd) (n : Nat) (sc : Scope) (κ : Env2) (tgt : Expr) (body : List Stmt) (I : List D → Rho → Prop) (K : Fl → Rho → Prop) (d : D) (ds : List D) (ρ : Rho) : Prop
  | mk (ρ1 : Rho) (a : AS w n sc κ ρ tgt d ρ1) (h : SVs w n sc κ ρ1 body (kLoop (I ds) K))
/-- a loop at its head -/
inductive AtHead (w : Wd) (env : Env) (κ : Env2) (F W : Nat → Prop) (s : Shared) (I : List D → Rho → Prop) (P : (Nat → Prop) → (Nat → Prop) → List D → Shared → Prop) (m : Nat) (s' : Shared) : Prop
  | mk (F' W' : Nat → Prop) (ad' : Str → Nat) (ρ' : Rho) (J : Nat → Prop) (ds : List D) (e : m = ds.length) (i : I ds ρ') (R : Fo w env F' W' ad' κ ρ' s') (x : Stp F W s F' W' s') (p : P F' J ds s') (z : JZ s s' F' W' J)
/-- the loop, its iterator made -/
theorem for_loop {tgt : Expr} {body : List Stmt} (I : List D → Rho → Prop) (hI : ∀ d ds ρ, I (d :: ds) ρ → kTurn w n sc κ tgt body I K d ds ρ)
    (hE : ∀ ρ, I [] ρ → K .next ρ) {A : Around} {it : Value} {J Jg : Nat → Prop} {P : (Nat → Prop) → (Nat → Prop) → List D → Shared → Prop} {F₁ : Nat → Prop} {s₁ : Shared} {ds : List D} {E : Value → Shared → Prop}
    (hs : env.scope = sc) (b : Bud A n) (f : Frm A) (R₀ : Fo w env F W ad κ ρ s) (R : Fo w env F₁ W ad κ ρ s₁) (X : Stp F W s F₁ W s₁) (it0 : Itr w n A tgt it Jg P) (hP : P F₁ J ds s₁) (hJ : JNew s s₁ F₁ J) (hJg : GNew s Jg) (i0 : I ds ρ) :
    codeAny (MM w) A (.forLoop tgt it body [] env) (fun r s' => match r with | .ok f => PS w env κ F W s K f s' | .error e => E e s') s₁ := by
  refine codeAny_forLoop_any (AtHead w env κ F W s I P) (fun m s2 hI2 => ?_) ds.length ⟨F₁, W, ad, ρ, J, ds, rfl, i0, R, X, hP, fun a h => ⟨(hJ a h).1, (hJ a h).2.1, (hJ a h).2.2, R₀.nayW (hJ a h).1⟩⟩
  clear hJ hP i0
  obtain ⟨F2, W2, ad2, ρ2, J, ds2, rfl, i2, R2, X2, P2, J2⟩ := hI2
  have jz : JOk w J F2 s2 := fun a h => ⟨(J2 a h).2.2.1, R₀.inv.own (J2 a h).1, (J2 a h).2.1⟩
  have moved {s3 : Shared} {F3 : Nat → Prop} (a : AdvJ w J Jg s2 F2 s3 F3) : Fo w env F3 W2 ad2 κ ρ2 s3 ∧ Stp F W s F3 W2 s3 := ⟨R2.stepJ a (fun b q => (J2 b q).2.2.1) (fun b q => (J2 b q).2.2.2) (R₀.cellNew fun b q => (J2 b q).1), X2.thenJ a J2 hJg⟩
  cases ds2 with
  | nil =>
    refine wpAny_mono (it0.stop F2 J s2 b f R2.inv R2.fz jz P2) (fun r s3 h3 => ?_) fun _ _ x => x.elim
    obtain ⟨rfl, a⟩ := h3
    exact wpAny_execs_nil (.on (hE _ i2) (moved a).1 (moved a).2)
  | cons d ds3 =>
    refine wpAny_mono (it0.step F2 J d ds3 s2 b f R2.inv R2.fz jz P2) (fun r s3 h3 => ?_) fun _ _ x => x.elim
    obtain ⟨v, rfl, h3⟩ := h3
    refine wpAny_mono h3 (fun _ s4 h4 => ?_) fun _ _ x => x.elim
    obtain ⟨F4, J4, r4, P4, a, jt, jn⟩ := h4
    obtain ⟨R4, X4⟩ := moved a
    obtain ⟨ρ1, as, body⟩ := hI d ds3 ρ2 i2
    have b4 : JZ s s4 F4 W2 J4 := fun c hc => ⟨(jn c hc).1.elim (fun h => (J2 c h).1) fun h => X2.nay h.1, (jn c hc).2.2, (jn c hc).2.1, (jn c hc).1.elim (fun h => (J2 c h).2.2.2) fun h => R2.nayW h.1⟩
    refine wpAny_mono (as.run A env F4 W2 ad2 s4 v hs b R4 r4) (fun _ s5 h5 => ?_) fun _ _ x => x.elim
    obtain ⟨F5, R5, X5⟩ := h5
    refine wpAny_mono (body.run A env F5 W2 ad2 s5 hs b f R5) (fun fl s6 h6 => ?_) fun _ _ x => x.elim
    obtain ⟨F6, W6, ad6, ρ6, g, k, r, R6, X6⟩ := h6
    have Y := X5.trans X6
    have Z := X4.trans Y
    have again (i : I ds3 ρ6) : ∃ m, m < (d :: ds3).length ∧ AtHead w env κ F W s I P m s6 :=
      ⟨ds3.length, Nat.lt_succ_self _, F6, W6, ad6, ρ6, J4, ds3, rfl, i, R6, Z,
        it0.stab F4 F6 J4 ds3 s4 s6 P4 Y.fsub (fun b o h e => Y.keep b o e (R4.fw b h) (R4.fz b h).1.notTab) (fun b o h e => Y.keep b o e (b4 b h).2.2.2 (R₀.inv.own (b4 b h).1).notTab) Y.gens,
        fun b h => (b4 b h).2.1.elim fun o e => ⟨(b4 b h).1, Y.there b o e, fun q => (Y.fnew b q).elim (b4 b h).2.2.1 fun q => q.elim (b4 b h).2.2.2 fun q => nay q.1 e, fun q => (Y.wnew b q).elim (b4 b h).2.2.2 fun q => nay q e⟩⟩
    refine r.go (K := (kLoop (I ds3) K · ρ6)) k (fun k => ?_) (fun k => ?_) (fun k => ?_) fun _ _ r k => ?_
    · exact again k
    · exact .on k R6 Z
    · exact again k
    · exact ⟨_, _, _, _, _, k, .ret r, R6, Z⟩

theorem SV.for {tgt iter : Expr} {body : List Stmt} {pos : Pos} (I : List D → Rho → Prop) (h : IV w n sc κ (dropMl ρ) tgt iter (I · ρ)) (hI : ∀ d ds ρ, I (d :: ds) ρ → kTurn w n sc κ tgt body I K d ds ρ)
    (hE : ∀ ρ, I [] ρ → K .next ρ) (hs1 : ∀ env x, foldedSetIterable iter env x = pure x := by intro _ _; rfl) : SV w n sc κ ρ (.For tgt iter body [] pos) K := by
  constructor
  intro A env F W ad s hs b f R
  refine wpAny_For (wpAny_mono (h.run A env F s hs b f R.rd0) (fun x s1 h1 => wpAny_mono h1 (fun it s2 h2 => ?_) fun _ _ x => x.elim) fun _ _ x => x.elim) (hs1 env)
  obtain ⟨G', ds, J, Jg, P, i0, it0, hP, x1, hJ, hJg⟩ := h2
  obtain ⟨R1, y1⟩ := R.ext0 x1
  exact for_loop I hI hE hs b f R R1 y1 it0 (it0.stab _ _ _ ds s2 s2 hP (R.clean x1) (fun _ _ _ e => e) (fun _ _ _ e => e) fun _ _ e => e) (fun a h => ⟨(hJ a h).1, (hJ a h).2.1, fun q => (hJ a h).2.2 q.1⟩) hJg i0
abbrev kIter (w : Wd) (n : Nat) (tgt : Expr) (Q : List D → Prop) (d : D) : Prop := d.imm = true ∧ ∀ (A : Around) (G : Nat → Prop) (s : Shared) (v : Value), Bud A n → Frm A → Inv w s → Gz w G s → Rep s.heap G v d → wpAny (MM w) A (pyIter v) (PostI w n A tgt s G Q) NoE s
/-- over what needs nothing of the heap -/
theorem SV.forI {tgt iter : Expr} {body : List Stmt} {pos : Pos} (I : List D → Rho → Prop) (h : EV w n sc κ ρ iter (kIter w n tgt (I · ρ))) (hI : ∀ d ds ρ, I (d :: ds) ρ → kTurn w n sc κ tgt body I K d ds ρ)
    (hE : ∀ ρ, I [] ρ → K .next ρ) (hs1 : ∀ env x, foldedSetIterable iter env x = pure x := by intro _ _; rfl) : SV w n sc κ ρ (.For tgt iter body [] pos) K := by
  constructor
  intro A env F W ad s hs b f R
  refine wpAny_For (wpAny_mono (h.run A env _ s hs b f R.rd) (fun x s1 h1 => ?_) fun _ _ x => x.elim) (hs1 env)
  obtain ⟨G1, d, ⟨hi, h1⟩, r1, x1⟩ := h1
  obtain ⟨R1, y1⟩ := R.ext2 x1
  refine wpAny_mono (h1 A _ s1 x b f R1.inv R1.fz (r1.imm hi)) (fun it s2 h2 => ?_) fun _ _ x => x.elim
  obtain ⟨G', ds, J, Jg, P, i0, it0, hP, x2, hJ, hJg⟩ := h2
  obtain ⟨R2, y2⟩ := R1.ext0 x2
  refine for_loop I hI hE hs b f R R2 (y1.trans y2) it0 (it0.stab _ _ _ ds s2 s2 hP (R1.clean x2) (fun _ _ _ e => e) (fun _ _ _ e => e) fun _ _ e => e) (fun a h => ⟨x1.nay (hJ a h).1, (hJ a h).2.1, fun q => (hJ a h).2.2 q.1⟩) (fun i h => ?_) i0
  cases e : s.gens[i]? with
  | none => rfl
  | some z => exact absurd ((hJg i h).symm.trans (x1.gens i z e)) (Option.some_ne_none z).symm
end
end Mine
end

noncomputable section
--# Lb14
namespace Mine
open PySem PySem.W PyProof.Rows PySem.Calls

theorem TabOk.but {H h h' : Heap} {J : Nat → Prop} {b : Nat} {l c : Int} {q : Str} (x : TabOk H h b l c q) (k : ∀ a o, ¬ J a → h.get? a = some o → h'.get? a = some o) (hb : ¬ J b) (hc : ∀ a o, J a → h.get? a = some o → o.cls ≠ .type "code") : TabOk H h' b l c q := by
  rcases x with x | ⟨c', h0, h1, ⟨c2, oc, vs, tk, e1, e2, e3, e4⟩, o', h3, h4⟩
  · exact .inl (k _ _ hb x)
  · have nc : ¬ J c' := fun q => hc c' o' q h3 h4
    obtain rfl := Value.ref.inj e1
    exact .inr ⟨c', h0, k _ _ hb h1, ⟨c', oc, vs, tk, rfl, k _ _ nc e2, e3, e4⟩, o', k _ _ nc h3, h4⟩

section
variable {w : Wd} {n : Nat} {sc : Scope} {κ : Env2} {ρ : Rho} {s : Shared} {G : Nat → Prop}

theorem Inv.but {J : Nat → Prop} (i : Inv w s) (jo : ∀ a, J a → Own w a) (jc : ∀ a o, J a → s.heap.get? a = some o → o.cls ≠ .type "code") {h' : Heap} (k : ∀ b o, ¬ J b → s.heap.get? b = some o → h'.get? b = some o) (t : Nat) : Inv w { s with heap := h', toks := t } :=
  ⟨fun a oa e nt => k a oa (fun q => (jo a q).ne e rfl) (i.base a oa e nt), i.t1.but k (fun q => (jo _ q).ne1 rfl) jc, i.t2.but k (fun q => (jo _ q).ne2 rfl) jc, i.bare⟩
theorem AdvJ.of {J : Nat → Prop} (i : Inv w s) (jo : ∀ a, J a → Own w a) (jc : ∀ a o, J a → s.heap.get? a = some o → o.cls ≠ .type "code") {h' : Heap} (k : ∀ b o, ¬ J b → s.heap.get? b = some o → h'.get? b = some o) (t : Nat) (Jg : Nat → Prop) : AdvJ w J Jg s G { s with heap := h', toks := t } G :=
  ⟨fun b o nj e => ⟨o, k b o nj e⟩, fun b o e nj _ => k b o nj e, fun b hb => (i.tabs hb).elim fun ps e => .inl ((k b _ (fun q => (jo b q).notTab hb) e).trans e.symm), fun _ _ _ e => e, rfl, i.but jo jc k t, fun _ h => h, fun _ h => .inl h⟩
theorem AdvJ.plus {J Jg : Nat → Prop} {s' : Shared} {G' : Nat → Prop} (x : AdvJ w J Jg s G s' G') {a : Nat} (ha : s.heap.get? a = none) {o : Obj} (ho : s'.heap.get? a = some o) : AdvJ w J Jg s G s' (Plus G' a) :=
  ⟨x.there, x.keep, x.tab, x.gens, x.os, x.inv, fun b h => .inl (x.sub b h), fun b h => h.elim (x.new b) fun q => .inr (q ▸ ⟨ha, o, ho⟩)⟩
abbrev One (it : Nat) : Nat → Prop := fun a => a = it
/-- an object of that class -/
abbrev IsA (h : Heap) (a : Nat) (T : String) (R : Obj → Prop) : Prop := ∃ o, h.get? a = some o ∧ o.cls = .type T ∧ R o
theorem IsA.cls {h : Heap} {a : Nat} {T : String} {R : Obj → Prop} (x : IsA h a T R) (hT : T ≠ "code") {o : Obj} (e : h.get? a = some o) : o.cls ≠ .type "code" := x.elim fun o' p q => hT (Value.type.inj (p.2.1.symm.trans (Option.some.inj (p.1.symm.trans e) ▸ q)))
theorem IsA.there {h : Heap} {a : Nat} {T : String} {R : Obj → Prop} (x : IsA h a T R) : ∃ o, h.get? a = some o := x.elim fun o p => ⟨o, p.1⟩
/-- one iterator changed -/
theorem AdvJ.one {it : Nat} (iv : Inv w s) (jz : JOk w (One it) G s) {T : String} {R : Obj → Prop} (x : IsA s.heap it T R) (hT : T ≠ "code") {h' : Heap} (k : ∀ b o, b ≠ it → s.heap.get? b = some o → h'.get? b = some o) (t : Nat) (Jg : Nat → Prop) : AdvJ w (One it) Jg s G { s with heap := h', toks := t } G :=
  .of iv (fun a h => (jz a h).2.1) (fun a o h e => x.cls hT (h ▸ e)) (fun b o nb e => k b o nb e) t Jg
theorem Got0.one {it : Nat} {Jg : Nat → Prop} {P : (Nat → Prop) → List D → Shared → Prop} {d : D} {ds : List D} {v : Value} (iv : Inv w s) (jz : JOk w (One it) G s) {T : String} {R : Obj → Prop} (x : IsA s.heap it T R) (hT : T ≠ "code") {h' : Heap} {t : Nat} (hs : Heap.SameBut it s.heap h') (hit : ∃ o, h'.get? it = some o) (r : Rep s.heap G v d)
    (p : KeepsOn G s.heap h' → P G ds { s with heap := h', toks := t }) : Got0 w (One it) Jg P d ds s G v { s with heap := h', toks := t } :=
  have kG : KeepsOn G s.heap h' := fun a o ha e => (hs.2 a fun q => (jz it rfl).1 (q ▸ ha)).trans e
  ⟨G, r.mono kG fun _ h => h, p kG, .one iv jz x hT (fun b o nb e => (hs.2 b nb).trans e) t Jg, fun a h => h ▸ hit⟩

theorem letgo_name {x : Str} {p : Pos} {it v : Value} {M : Model} {A : Around} {E : Value → Shared → Prop} {Q : Unit → Shared → Prop} (h : Q () s) : wpAny M A (letOwnedTupleGo (.Name x p) it v) Q E s := wpAny_pure h

theorem drop_cons {α : Type} {all : List α} {i : Nat} {d : α} {ds : List α} (e : d :: ds = all.drop i) : all[i]? = some d ∧ ds = all.drop (i + 1) :=
  ⟨(List.getElem?_drop (xs := all) (i := i) (j := 0)).symm.trans (e ▸ rfl), (congrArg List.tail e).trans List.tail_drop⟩
theorem drop_nil {α : Type} {all : List α} {i : Nat} (e : [] = all.drop i) : all.length ≤ i := List.drop_eq_nil_iff.mp e.symm

inductive PList (it l : Nat) (vs : List Value) (G : Nat → Prop) (ds : List D) (s : Shared) : Prop
  | mk (i : Nat) (all : List D) (h1 : s.heap.IsListIter it l i) (h2 : s.heap.IsList l vs.toArray) (h3 : G l) (h4 : RepL s.heap G vs all) (h5 : ds = all.drop i)
theorem get_list {vs : List Value} {i : Nat} {v : Value} (h : vs[i]? = some v) : vs.toArray[i]? = some v := List.getElem?_toArray.trans h
theorem end_list {h : Heap} {vs : List Value} {all : List D} {i : Nat} (r : RepL h G vs all) (h5 : [] = all.drop i) : vs.toArray[i]? = none := Array.getElem?_eq_none (Nat.le_trans (Nat.le_of_eq r.length) (drop_nil h5))
theorem itr_list {it l : Nat} {vs : List Value} {x : Str} {p : Pos} : Itr0 w n (.Name x p) (.ref it) (One it) Nil (PList it l vs) where
  stab := fun G G' ds s s' q sub kG kJ _ => by
    obtain ⟨i, all, h1, h2, h3, h4, h5⟩ := q
    exact ⟨i, all, h1.at fun o e => kJ _ o rfl e, h2.at fun o e => kG _ o h3 e, sub _ h3, h4.mono kG sub, h5⟩
  step := fun A G d ds s b f iv z jz q => by
    obtain ⟨i, all, h1, h2, h3, h4, h5⟩ := q
    obtain ⟨e1, e2⟩ := drop_cons h5
    obtain ⟨v, hv, rv⟩ := h4.get e1
    exact wpAny_pyNext_list_item (x := v) h1 h2 (get_list hv) fun h' hit hs => ⟨v, rfl, letgo_name (Got0.one iv jz h1 (by decide) hs (IsA.there hit) rv fun kG => ⟨i + 1, all, hit, h2.at fun o e => kG _ o h3 e, h3, h4.mono kG fun _ h => h, e2⟩)⟩
  self := fun A G ds s Q E q k => by
    obtain ⟨i, all, h1, _⟩ := q
    exact wpAny_pyIter_listiter h1 k
  stop := fun A G s b f iv z jz q => by
    obtain ⟨i, all, h1, h2, h3, h4, h5⟩ := q
    exact wpAny_pyNext_list_end b.hnd h1 h2 (end_list h4 h5) fun h' hs => ⟨rfl, .one iv jz h1 (by decide) hs s.toks _⟩

theorem iter_self_tup {A : Around} {E : Value → Shared → Prop} {it l i : Nat} {Q : Value → Shared → Prop} (h : IsTupIter s.heap it l i) (q : Q (.ref it) s) : wpAny (MM w) A (pyIter (.ref it)) Q E s :=
  wpAny_pyIter_tupleiter (t := l) (i := i) h q
inductive PTup (it l : Nat) (vs : List Value) (G : Nat → Prop) (ds : List D) (s : Shared) : Prop
  | mk (i : Nat) (all : List D) (h1 : IsTupIter s.heap it l i) (h2 : IsTup s.heap l vs.toArray) (h3 : G l) (h4 : RepL s.heap G vs all) (h5 : ds = all.drop i)
theorem itr_tup {it l : Nat} {vs : List Value} {x : Str} {p : Pos} : Itr0 w n (.Name x p) (.ref it) (One it) Nil (PTup it l vs) where
  stab := fun G G' ds s s' q sub kG kJ _ => by
    obtain ⟨i, all, h1, h2, h3, h4, h5⟩ := q
    exact ⟨i, all, h1.elim fun o p => ⟨o, kJ _ o rfl p.1, p.2⟩, tup_move h2 fun o e => kG _ o h3 e, sub _ h3, h4.mono kG sub, h5⟩
  step := fun A G d ds s b f iv z jz q => by
    obtain ⟨i, all, h1, h2, h3, h4, h5⟩ := q
    obtain ⟨e1, e2⟩ := drop_cons h5
    obtain ⟨v, hv, rv⟩ := h4.get e1
    exact next_tuple_item (x := v) h1 h2 (get_list hv) fun h' hit hs => ⟨v, rfl, letgo_name (Got0.one iv jz h1 (by decide) hs (IsA.there hit) rv fun kG => ⟨i + 1, all, hit, tup_move h2 fun o e => kG _ o h3 e, h3, h4.mono kG fun _ h => h, e2⟩)⟩
  self := fun A G ds s Q E q k => by
    obtain ⟨i, all, h1, _⟩ := q
    exact iter_self_tup h1 k
  stop := fun A G s b f iv z jz q => by
    obtain ⟨i, all, h1, h2, h3, h4, h5⟩ := q
    exact next_tuple_end b.hnd h1 h2 (end_list h4 h5) fun h' hs => ⟨rfl, .one iv jz h1 (by decide) hs s.toks _⟩

theorem take_rev {α : Type} {all : List α} {k : Nat} {d : α} {ds : List α} (e : d :: ds = (all.take k).reverse) (hk : k ≤ all.length) : ∃ j, k = j + 1 ∧ all[j]? = some d ∧ ds = (all.take j).reverse := by
  cases k with
  | zero => simp at e
  | succ j =>
    have hj : j < all.length := hk
    rw [List.take_add_one, List.getElem?_eq_getElem hj, Option.toList_some, List.reverse_append, List.reverse_singleton, List.singleton_append] at e
    injection e with e1 e2
    exact ⟨j, rfl, by rw [List.getElem?_eq_getElem hj, e1], e2⟩

inductive PRev (it l : Nat) (vs : List Value) (G : Nat → Prop) (ds : List D) (s : Shared) : Prop
  | mk (k : Nat) (all : List D) (h1 : s.heap.IsRevIter it l ((k : Int) - 1)) (h2 : s.heap.IsList l vs.toArray) (h3 : G l) (h4 : RepL s.heap G vs all) (hk : k ≤ all.length) (h5 : ds = (all.take k).reverse)
theorem itr_rev {it l : Nat} {vs : List Value} {x : Str} {p : Pos} : Itr0 w n (.Name x p) (.ref it) (One it) Nil (PRev it l vs) where
  stab := fun G G' ds s s' q sub kG kJ _ => by
    obtain ⟨i, all, h1, h2, h3, h4, hk, h5⟩ := q
    exact ⟨i, all, h1.at fun o e => kJ _ o rfl e, h2.at fun o e => kG _ o h3 e, sub _ h3, h4.mono kG sub, hk, h5⟩
  step := fun A G d ds s b f iv z jz q => by
    obtain ⟨k, all, h1, h2, h3, h4, hk, h5⟩ := q
    obtain ⟨j, rfl, e1, e2⟩ := take_rev h5 hk
    obtain ⟨v, hv, rv⟩ := h4.get e1
    have h1' : s.heap.IsRevIter it l (j : Int) := (Int.add_sub_cancel (j : Int) 1 : ((j + 1 : Nat) : Int) - 1 = j) ▸ h1
    exact wpAny_pyNext_rev_item (x := v) h1' h2 (get_list hv) fun h' hit hs => ⟨v, rfl, letgo_name (Got0.one iv jz h1' (by decide) hs (IsA.there hit) rv fun kG => ⟨j, all, hit, h2.at fun o e => kG _ o h3 e, h3, h4.mono kG fun _ h => h, Nat.le_of_succ_le hk, e2⟩)⟩
  self := fun A G ds s Q E q k => by
    obtain ⟨i, all, h1, _⟩ := q
    exact wpAny_pyIter_revIter h1 k
  stop := fun A G s b f iv z jz q => by
    obtain ⟨k, all, h1, h2, h3, h4, hk, h5⟩ := q
    have h6 := congrArg List.length h5
    rw [List.length_reverse, List.length_take, Nat.min_eq_left hk] at h6
    obtain rfl : 0 = k := h6
    exact wpAny_pyNext_rev_end (l := l) b.hnd h1 fun h' hs => ⟨rfl, .one iv jz h1 (by decide) hs s.toks _⟩

/-- x, x + c, .. -/
noncomputable def arD (x c : Int) : Nat → List D
  | 0 => []
  | k + 1 => .int x :: arD (x + c) c k
inductive PRange (it : Nat) (c : Int) (G : Nat → Prop) (ds : List D) (s : Shared) : Prop
  | mk (a : Int) (k : Nat) (h1 : IsRangeIter s.heap it a k c) (h2 : ds = arD a c k)
theorem range_isA {h : Heap} {it : Nat} {a k c : Int} (x : IsRangeIter h it a k c) : IsA h it "range_iterator" fun _ => True := ⟨_, x, rfl, trivial⟩
theorem itr_range {it : Nat} {c : Int} {x : Str} {p : Pos} : Itr0 w n (.Name x p) (.ref it) (One it) Nil (PRange it c) where
  stab := fun G G' ds s s' q sub kG kJ _ => by
    obtain ⟨a, k, h1, h2⟩ := q
    exact ⟨a, k, kJ _ _ rfl h1, h2⟩
  step := fun A G d ds s b f iv z jz q => by
    obtain ⟨a, k, h1, h2⟩ := q
    cases k with
    | zero => cases h2
    | succ k =>
      obtain ⟨rfl, rfl⟩ := List.cons.inj h2
      refine wpAny_pyNext_range_item h1 (Int.natCast_pos.mpr (Nat.succ_pos k)) fun h' hit hs => ⟨_, rfl, letgo_name (Got0.one iv jz (range_isA h1) (by decide) hs ⟨_, hit⟩ (.int ..) fun _ => ⟨a + c, k, ?_, rfl⟩)⟩
      exact (Int.add_sub_cancel (k : Int) 1 : ((k + 1 : Nat) : Int) - 1 = k) ▸ hit
  self := fun A G ds s Q E q k => by
    obtain ⟨a, _, h1, _⟩ := q
    exact wpAny_pyIter_rangeiter h1 k
  stop := fun A G s b f iv z jz q => by
    obtain ⟨a, k, h1, h2⟩ := q
    cases k with
    | succ k => cases h2
    | zero => exact wpAny_pyNext_range_end b.hnd h1 (Int.le_refl 0) fun h' hs => ⟨rfl, .one iv jz (range_isA h1) (by decide) hs s.toks _⟩

noncomputable def chD (x : Str) : List D := x.cps.toList.map fun c => .str ⟨#[c]⟩
theorem chD_get {x : Str} {i : Nat} {d : D} (e : (chD x)[i]? = some d) : ∃ c, x.cps[i]? = some c ∧ d = .str ⟨#[c]⟩ := by
  unfold chD at e
  rw [List.getElem?_map, Array.getElem?_toList] at e
  obtain ⟨c, h, q⟩ := Option.map_eq_some_iff.mp e
  exact ⟨c, h, q.symm⟩
inductive PStr (it : Nat) (y : Str) (t : Tok) (G : Nat → Prop) (ds : List D) (s : Shared) : Prop
  | ascii (i : Nat) (h : s.heap.IsStrIter it "str_ascii_iterator" y t i) (e : ds = (chD y).drop i) : PStr it y t G ds s
  | wide (i : Nat) (h : s.heap.IsStrIter it "str_iterator" y t i) (e : ds = (chD y).drop i) : PStr it y t G ds s
theorem str_end {y : Str} {i : Nat} (h2 : [] = (chD y).drop i) : y.cps[i]? = none := by
  have h := drop_nil h2
  rw [chD, List.length_map, Array.length_toList] at h
  exact Array.getElem?_eq_none h
theorem itr_str {it : Nat} {y : Str} {t : Tok} {x : Str} {p : Pos} : Itr0 w n (.Name x p) (.ref it) (One it) Nil (PStr it y t) where
  stab := fun G G' ds s s' q sub kG kJ _ => by
    cases q with
    | ascii i h e => exact .ascii i (h.elim fun o p => ⟨o, kJ _ o rfl p.1, p.2⟩) e
    | wide i h e => exact .wide i (h.elim fun o p => ⟨o, kJ _ o rfl p.1, p.2⟩) e
  step := fun A G d ds s b f iv z jz q => by
    cases q with
    | ascii i h1 h2 =>
      obtain ⟨e1, e2⟩ := drop_cons h2
      obtain ⟨c, hc, rfl⟩ := chD_get e1
      exact wpAny_pyNext_ascii_item h1 hc fun h' hit hs => ⟨_, rfl, letgo_name (Got0.one iv jz h1 (by decide) hs (IsA.there hit) (.str ..) fun _ => .ascii (i + 1) hit e2)⟩
    | wide i h1 h2 =>
      obtain ⟨e1, e2⟩ := drop_cons h2
      obtain ⟨c, hc, rfl⟩ := chD_get e1
      exact wpAny_pyNext_wide_item h1 hc fun h' hit hs => ⟨_, rfl, letgo_name (Got0.one iv jz h1 (by decide) hs (IsA.there hit) (.str ..) fun _ => .wide (i + 1) hit e2)⟩
  self := fun A G ds s Q E q k => by
    cases q with
    | ascii i h => exact wpAny_pyIter_striter_ascii h k
    | wide i h => exact wpAny_pyIter_striter_wide h k
  stop := fun A G s b f iv z jz q => by
    cases q with
    | ascii i h1 h2 => exact wpAny_pyNext_ascii_end b.hnd h1 (str_end h2) fun h' hs => ⟨rfl, .one iv jz h1 (by decide) hs s.toks _⟩
    | wide i h1 h2 => exact wpAny_pyNext_wide_end b.hnd h1 (str_end h2) fun h' hs => ⟨rfl, .one iv jz h1 (by decide) hs s.toks _⟩

/-- numbered from i on -/
noncomputable def enD : Nat → List D → List D
  | _, [] => []
  | i, d :: ds => .tup [.int i, d] :: enD (i + 1) ds
abbrev Duo (e it : Nat) : Nat → Prop := fun a => a = e ∨ a = it
inductive PEnum (e it l : Nat) (vs : List Value) (G : Nat → Prop) (ds : List D) (s : Shared) : Prop
  | mk (i : Nat) (all : List D) (old : Value) (h0 : IsEnum s.heap e it i old) (h1 : s.heap.IsListIter it l i) (h2 : s.heap.IsList l vs.toArray) (h3 : G l) (h4 : RepL s.heap G vs all) (h5 : ds = enD i (all.drop i))
theorem enum_adv {e it i l : Nat} {old : Value} (iv : Inv w s) (jz : JOk w (Duo e it) G s) (h0 : IsEnum s.heap e it i old) (h1 : s.heap.IsListIter it l i) {h' : Heap} (k : ∀ b o, ¬ Duo e it b → s.heap.get? b = some o → h'.get? b = some o) (t : Nat) (Jg : Nat → Prop) : AdvJ w (Duo e it) Jg s G { s with heap := h', toks := t } G :=
  .of iv (fun a h => (jz a h).2.1) (fun a o h q => h.elim (fun h => IsA.cls (T := "enumerate") (R := fun _ => True) ⟨_, h0, rfl, trivial⟩ (by decide) (h ▸ q)) fun h => IsA.cls h1 (by decide) (h ▸ q)) k t Jg
theorem itr_enum {e it l : Nat} {vs : List Value} {elts : List Expr} {k : Nat} {p : Pos} (hne : e ≠ it) : Itr0 w n (.Tuple elts k p) (.ref e) (Duo e it) Nil (PEnum e it l vs) where
  stab := fun G G' ds s s' q sub kG kJ _ => by
    obtain ⟨i, all, old, h0, h1, h2, h3, h4, h5⟩ := q
    exact ⟨i, all, old, kJ _ _ (.inl rfl) h0, h1.at fun o e => kJ _ o (.inr rfl) e, h2.at fun o e => kG _ o h3 e, sub _ h3, h4.mono kG sub, h5⟩
  step := fun A G d ds s b f iv z jz q => by
    obtain ⟨i, all, old, h0, h1, h2, h3, h4, h5⟩ := q
    cases ea : all.drop i with
    | nil => rw [ea] at h5; cases h5
    | cons d' rest =>
      rw [ea] at h5
      obtain ⟨rfl, rfl⟩ := List.cons.inj h5
      obtain ⟨e1, e2⟩ := drop_cons ea.symm
      obtain ⟨v, hv, rv⟩ := h4.get e1
      refine wpAny_pyNext_enum_item (x := v) h0 h1 h2 (get_list hv) hne fun h' heo hit ht hsz hk => ⟨_, rfl, ?_⟩
      refine wpAny_letOwnedTupleGo_enum heo fun h₂ he₂ hs₂ => ?_
      have hk2 : ∀ b o, ¬ Duo e it b → s.heap.get? b = some o → h₂.get? b = some o := fun b o nb q => (hs₂.2 b (fun z => nb (.inl z))).trans (hk b o (fun z => nb (.inl z)) (fun z => nb (.inr z)) q)
      have ht₂ : h₂.get? s.heap.objs.size = some { cls := .type "tuple", data := .seq #[.int i s.toks, v] } := (hs₂.2 _ (Nat.ne_of_gt (Heap.lt_size h0))).trans ht
      have kG : KeepsOn G s.heap h₂ := fun b o hb q => hk2 b o (fun z => (jz b z).1 hb) q
      have hit₂ : h₂.IsListIter it l (i + 1) := hit.at fun o q => (hs₂.2 _ hne.symm).trans q
      exact ⟨Plus G s.heap.objs.size, .tup (vs := [.int i s.toks, v]) (.inr rfl) ⟨_, ht₂, rfl, 0, rfl⟩ (.cons (.int ..) (.cons (rv.mono kG fun _ h => .inl h) .nil)),
        ⟨i + 1, all, v, he₂, hit₂, h2.at fun o q => kG _ o h3 q, .inl h3, h4.mono kG fun _ h => .inl h, e2 ▸ rfl⟩,
        (enum_adv iv jz h0 h1 hk2 _ _).plus (size_none _) ht₂, fun a h => h.elim (fun h => h ▸ ⟨_, he₂⟩) fun h => h ▸ IsA.there hit₂⟩
  self := fun A G ds s Q E q k => by
    obtain ⟨i, all, old, h1, _⟩ := q
    exact wpAny_pyIter_enum h1 k
  stop := fun A G s b f iv z jz q => by
    obtain ⟨i, all, old, h0, h1, h2, h3, h4, h5⟩ := q
    have hl : vs.toArray[i]? = none := by
      cases ea : all.drop i with
      | nil => exact end_list h4 ea.symm
      | cons d' rest => rw [ea] at h5; cases h5
    exact wpAny_pyNext_enum_end b.hnd h0 h1 h2 hl fun h' hs => ⟨rfl, enum_adv iv jz h0 h1 (fun a o na q => hs a o (fun z => na (.inr z)) q) s.toks _⟩
end
end Mine
end

noncomputable section
--# Lb15
namespace Mine
open PySem PySem.W PyProof.Rows PySem.Calls

/-- a datum that a for may go through -/
structure IterD (w : Wd) (n : Nat) (tgt : Expr) (d : D) (Q : List D → Prop) : Prop where
  run : ∀ (A : Around) (G : Nat → Prop) (s : Shared) (v : Value), Bud A n → Frm A → Inv w s → Gz w G s → Rep s.heap G v d → wpAny (MM w) A (pyIter v) (PostI w n A tgt s G Q) NoE s
/-- a call whose value a for goes through -/
structure CallI (w : Wd) (n : Nat) (tgt : Expr) (f : D) (args : List D) (Q : List D → Prop) : Prop where
  run : ∀ (A : Around) (G : Nat → Prop) (s : Shared) (vf : Value) (vs : List Value), Bud A n → Frm A → Inv w s → Gz w G s → Rep s.heap G vf f → RepL s.heap G vs args →
    wpAny (MM w) A (call vf vs) (fun x s1 => wpAny (MM w) A (pyIter x) (PostI w n A tgt s G Q) NoE s1) NoE s

section
variable {w : Wd} {n : Nat} {sc : Scope} {κ : Env2} {ρ : Rho} {s : Shared} {G : Nat → Prop} {tgt : Expr}

abbrev kIterD (w : Wd) (n : Nat) (tgt : Expr) (Q : List D → Prop) (d : D) : Prop := IterD w n tgt d Q
abbrev kArgsI (w : Wd) (n : Nat) (tgt : Expr) (f : D) (Q : List D → Prop) (ds : List D) : Prop := CallI w n tgt f ds Q
abbrev kCallI (w : Wd) (n : Nat) (sc : Scope) (κ : Env2) (ρ : Rho) (es : List Expr) (tgt : Expr) (Q : List D → Prop) (f : D) : Prop := KeepOk w f ∧ EVs w n sc κ ρ es (kArgsI w n tgt f Q)
theorem IV.ofD {e : Expr} {Q : List D → Prop} (h : EV w n sc κ ρ e (kIterD w n tgt Q)) : IV w n sc κ ρ tgt e Q :=
  ⟨fun A _ _ _ hs b f R => h.then hs b f R fun v s1 G1 _ h1 r1 x1 R1 => wpAny_mono (h1.run A G1 s1 v b f x1.inv R1.gz r1) (fun _ _ p => p.back x1) fun _ _ x => x⟩
theorem IV.call {func : Expr} {es : List Expr} {pos : Pos} {Q : List D → Prop} (h : EV w n sc κ ρ func (kCallI w n sc κ ρ es tgt Q))
    (he : ∀ env, eval (.Call func es [] pos) env = (do callWith pos (← eval func env) [] (backTo pos (starEach es env)) (backToKw pos (keywordEach [] env))) := by intro _; rfl)
    (hst : ∀ env, (starEach es env).any (·.1) = false := by intro _; rfl) : IV w n sc κ ρ tgt (.Call func es [] pos) Q :=
  ⟨fun A env _ _ hs b f R => Call_ (h.then hs b f R fun _ _ _ _ h1 r1 x1 R1 => callWith_gen (starEach_plain es env pos hst) (evalArgs_gen (starEach_plain es env pos hst) (h1.2.then hs b f R1 fun vs s2 G2 _ h2 r2 x2 R2 =>
    ⟨h1.1.run s2 G2 _ x2.inv (x2.rep R1.gz r1), wpAny_mono (h2.run A G2 s2 _ vs b f x2.inv R2.gz (x2.rep R1.gz r1) r2) (fun _ _ p => wpAny_mono p (fun _ _ p => p.back (x1.trans x2)) fun _ _ x => x) fun _ _ x => x⟩))) (he env)⟩

/-- an iterator pushed -/
theorem PostI.push {A : Around} {it : Nat} {P : (Nat → Prop) → List D → Shared → Prop} {ds : List D} {Q : List D → Prop} (i : Inv w s) (z : Gz w G s) {o : Obj} (q : Q ds) (I : Itr0 w n tgt (.ref s.heap.objs.size) (One s.heap.objs.size) Nil P) (t : Nat)
    (hP : P G ds { s with heap := s.heap.push o, toks := t }) (hf : o.isFreed = false := by rfl) : PostI w n A tgt s G Q (.ref s.heap.objs.size) { s with heap := s.heap.push o, toks := t } :=
  ⟨G, ds, _, _, _, q, I.itr A, ⟨rfl, hP⟩, .heap i (fun b o e => Heap.get?_push_of_some _ e) t, fun a h => h ▸ ⟨size_none _, ⟨_, Heap.get?_push_size _ hf⟩, no_size z⟩, fun _ h => h.elim⟩

theorem IterD.list {x : Str} {p : Pos} {ds : List D} {Q : List D → Prop} (q : Q ds) : IterD w n (.Name x p) (.list ds) Q := ⟨fun A G s v b f i z r => by
  cases r using Rep.listE with | list ga hl rs =>
    exact wpAny_pyIter_list hl (PostI.push (it := 0) i z (ds := ds) q itr_list s.toks ⟨0, ds, ⟨_, Heap.get?_push_size _ rfl, rfl, rfl⟩, hl.push _, ga, rs.mono (fun _ _ _ e => Heap.get?_push_of_some _ e) fun _ h => h, rfl⟩)⟩
theorem IterD.tup {x : Str} {p : Pos} {ds : List D} {Q : List D → Prop} (q : Q ds) : IterD w n (.Name x p) (.tup ds) Q := ⟨fun A G s v b f i z r => by
  cases r using Rep.tupE with | tup ga hl rs =>
    exact iter_tuple hl (PostI.push (it := 0) i z (ds := ds) q itr_tup s.toks ⟨0, ds, ⟨_, Heap.get?_push_size _ rfl, rfl, rfl⟩, hl.push _, ga, rs.mono (fun _ _ _ e => Heap.get?_push_of_some _ e) fun _ h => h, rfl⟩)⟩
theorem IterD.str {x : Str} {p : Pos} {y : Str} {Q : List D → Prop} (q : Q (chD y)) : IterD w n (.Name x p) (.str y) Q := ⟨fun A G s v b f i z r => by
  cases r using Rep.strE with | str t =>
    cases ha : y.cps.all (· < 128)
    · exact wpAny_pyIter_wide ha (PostI.push (it := 0) i z (ds := chD y) q (itr_str (y := y) (t := t)) s.toks (.wide 0 ⟨_, Heap.get?_push_size _ rfl, rfl, rfl⟩ rfl))
    · exact wpAny_pyIter_ascii ha (PostI.push (it := 0) i z (ds := chD y) q (itr_str (y := y) (t := t)) s.toks (.ascii 0 ⟨_, Heap.get?_push_size _ rfl, rfl, rfl⟩ rfl))⟩

theorem reversed_i {x : Str} {p : Pos} {ds : List D} {Q : List D → Prop} (q : Q ds.reverse) : CallI w n (.Name x p) (.ty "reversed") [.list ds] Q := ⟨fun A G s vf vs b f i z rf ra => rf.tyE <| ra.oneE fun r => by
  cases r using Rep.listE with | @list a vs ga hl rs =>
    refine call_reversed_list hl (wpAny_pyIter_revIter (i := (vs.toArray.size : Int) - 1) (l := a) ⟨_, Heap.get?_push_size _ rfl, rfl, rfl⟩ (PostI.push (it := 0) i z (ds := ds.reverse) q (itr_rev (l := a) (vs := vs)) s.toks ?_))
    exact ⟨vs.length, ds, ⟨_, Heap.get?_push_size _ rfl, rfl, rfl⟩, hl.push _, ga, rs.mono (fun _ _ _ e => Heap.get?_push_of_some _ e) fun _ h => h, Nat.le_of_eq rs.length, by rw [rs.length, List.take_length]⟩⟩
theorem enumerate_i {elts : List Expr} {k : Nat} {p : Pos} {ds : List D} {Q : List D → Prop} (q : Q (enD 0 ds)) : CallI w n (.Tuple elts k p) (.ty "enumerate") [.list ds] Q := ⟨fun A G s vf vs b f i z rf ra => rf.tyE <| ra.oneE fun r => by
  cases r using Rep.listE with | @list a vs ga hl rs =>
    refine call_enumerate_list hl fun h' he hit hsz hk => wpAny_pyIter_enum he ?_
    have n1 : s.heap.get? (s.heap.objs.size + 1) = none := Heap.get?_none_of_le (Nat.le_succ _)
    exact ⟨G, enD 0 ds, _, _, _, q, (itr_enum (e := s.heap.objs.size + 1) (it := s.heap.objs.size) (l := a) (vs := vs) (Nat.succ_ne_self _)).itr A, ⟨rfl, ⟨0, ds, .none, he, hit, hl.at fun o e => hk _ o e, ga, rs.mono (fun b o _ e => hk b o e) fun _ h => h, rfl⟩⟩, .heap i hk s.toks,
      fun b h => h.elim (fun h => h ▸ ⟨n1, ⟨_, he⟩, z.nay n1⟩) fun h => h ▸ ⟨size_none _, IsA.there hit, no_size z⟩, fun _ h => h.elim⟩⟩

/-- a range made and gone through -/
theorem range_it {A : Around} {s₁ : Shared} {x : Str} {p : Pos} {r : Nat} {a b c : Int} {t u v : Tok} {k : Nat} {Q : List D → Prop} (hr : IsRange s₁.heap r a b c t u v) (hsmall : Builtin.Range.small a b c = true) (hk : Builtin.Range.rangeSize a b c = k)
    (i : Inv w s₁) (z : Gz w G s₁) (q : Q (arD a c k)) : wpAny (MM w) A (pyIter (.ref r)) (PostI w n A (.Name x p) s₁ G Q) NoE s₁ := by
  exact wpAny_pyIter_range hr hsmall (PostI.push (it := 0) i z (ds := arD a c k) q (itr_range (c := c)) s₁.toks ⟨a, k, hk ▸ Heap.get?_push_size _ rfl, rfl⟩)
/-- and on from before it was made -/
theorem range_go {A : Around} {x : Str} {p : Pos} {o : Obj} {t' : Nat} {a b c : Int} {t u v : Tok} {k : Nat} {Q : List D → Prop} (i : Inv w s) (z : Gz w G s) (hr : IsRange (s.heap.push o) s.heap.objs.size a b c t u v) (hsmall : Builtin.Range.small a b c = true) (hk : Builtin.Range.rangeSize a b c = k) (q : Q (arD a c k)) :
    wpAny (MM w) A (pyIter (.ref s.heap.objs.size)) (PostI w n A (.Name x p) s G Q) NoE { s with heap := s.heap.push o, toks := t' } :=
  have X : Ext w s G { s with heap := s.heap.push o, toks := t' } G := .heap i (fun _ _ e => Heap.get?_push_of_some _ e) _
  wpAny_mono (range_it hr hsmall hk X.inv (X.gz i z) q) (fun _ _ p => p.back X) fun _ _ x => x
theorem range_1 {x : Str} {p : Pos} {m : Int} {Q : List D → Prop} (h0 : 0 ≤ m) (hb : m < 2 ^ 62) (q : Q (arD 0 1 m.toNat)) : CallI w n (.Name x p) (.ty "range") [.int m] Q := ⟨fun A G s vf vs b f i z rf ra => rf.tyE <| ra.oneE fun r => r.intE fun t =>
  call_range_1 (range_go i z (IsRange.new ..) (small_one (by decide) (by decide) (Int.le_trans (by decide) h0) hb) (by rw [rangeSize_one]; omega) q)⟩
theorem range_2 {x : Str} {p : Pos} {a m : Int} {Q : List D → Prop} (h1 : -(2 ^ 62) ≤ a) (h2 : a < 2 ^ 62) (h3 : -(2 ^ 62) ≤ m) (hb : m < 2 ^ 62) (q : Q (arD a 1 (m - a).toNat)) : CallI w n (.Name x p) (.ty "range") [.int a, .int m] Q := ⟨fun A G s vf vs b f i z rf ra => rf.tyE <| ra.twoE fun r r2 => r.intE fun t => r2.intE fun u =>
  call_range_2 (range_go i z (IsRange.new ..) (small_one h1 h2 h3 hb) (by rw [rangeSize_one]; omega) q)⟩

theorem rangeSize_neg (a b : Int) : Builtin.Range.rangeSize a b (-1) = ((a - b).toNat : Int) := by
  unfold Builtin.Range.rangeSize
  rw [if_neg (by decide)]
  split <;> first | omega | (simp; try omega)
theorem small_neg {a b : Int} (ha : -(2 ^ 61) ≤ a) (ha' : a < 2 ^ 61) (hb : -(2 ^ 61) ≤ b) (hb' : b < 2 ^ 61) : Builtin.Range.small a b (-1) = true := by
  unfold Builtin.Range.small
  rw [rangeSize_neg]
  simp only [Builtin.Range.rangeFitsLong, Bool.and_eq_true, Bool.or_eq_true, decide_eq_true_eq, beq_iff_eq, show ¬ ((-1 : Int) > 0) by decide, if_false]
  omega
theorem range_3 {x : Str} {p : Pos} {a m : Int} {Q : List D → Prop} (h1 : -(2 ^ 61) ≤ a) (h2 : a < 2 ^ 61) (h3 : -(2 ^ 61) ≤ m) (hb : m < 2 ^ 61) (q : Q (arD a (-1) (a - m).toNat)) : CallI w n (.Name x p) (.ty "range") [.int a, .int m, .int (-1)] Q := ⟨fun A G s vf vs b f i z rf ra => rf.tyE <| by
  cases ra using RepL.consE with | cons r rs =>
  cases rs using RepL.twoE with | two r2 r3 =>
  exact r.intE fun t => r2.intE fun u => r3.intE fun v => call_range_3 (by decide) (range_go i z (IsRange.new ..) (small_neg h1 h2 h3 hb) (rangeSize_neg a m) q) (.inr (f.room b i))⟩
end
end Mine
end

noncomputable section
--# Lb16
namespace Mine
open PySem PySem.W PyProof.Rows PySem.Calls

section
variable {w : Wd} {n : Nat} {sc : Scope} {κ : Env2} {ρ : Rho} {env : Env} {F W G' : Nat → Prop} {ad : Str → Nat} {s s' : Shared}

theorem Stp.j {F' : Nat → Prop} (x : Stp F W s F' W s') (R : Fo w env F' W ad κ ρ s') (J Jg : Nat → Prop) (h : ∀ a, W a → J a) : AdvJ w J Jg s F s' F' :=
  ⟨fun b o _ e => x.there b o e, fun b o e nj nt => x.keep b o e (fun q => nj (h b q)) nt, x.tab, fun i z _ e => x.gens i z e, x.os, R.inv, x.fsub, fun a q => (x.fnew a q).elim .inl fun q' => q'.elim (fun q' => absurd q' (R.fw a q)) .inr⟩
theorem AdvJ.nay {J Jg G G1 : Nat → Prop} {s s1 : Shared} (x : AdvJ w J Jg s G s1 G1) (hz : Th J s1) {a : Nat} (q : s1.heap.get? a = none) : s.heap.get? a = none := by
  by_cases hj : J a
  · exact (hz a hj).elim fun _ e => Mine.nay q e
  · cases e : s.heap.get? a with
    | none => rfl
    | some o => exact (x.there a o hj e).elim fun _ e' => Mine.nay q e'
theorem AdvJ.trans {J Jg J2 Jg2 G G1 G2 : Nat → Prop} {s s1 s2 : Shared} (x : AdvJ w J Jg s G s1 G1) (y : AdvJ w J2 Jg2 s1 G1 s2 G2) (h : ∀ b, J2 b → J b ∨ s.heap.get? b = none) (hg : ∀ i, Jg2 i → Jg i ∨ s.gens[i]? = none) (hn : ∀ a, G1 a → ¬ J2 a) (hz : Th J s1) : AdvJ w J Jg s G s2 G2 where
  there := fun b o nj e => (x.there b o nj e).elim fun o' e' => y.there b o' (fun q => (h b q).elim nj fun q => Mine.nay q e) e'
  keep := fun b o e nj nt => y.keep b o (x.keep b o e nj nt) (fun q => (h b q).elim nj fun q => Mine.nay q e) nt
  tab := fun b hb => (x.tab b hb).trans (y.tab b hb)
  gens := fun i z nj e => y.gens i z (fun q => (hg i q).elim nj fun q => absurd (q.symm.trans e) (Option.some_ne_none z).symm) (x.gens i z nj e)
  os := y.os.trans x.os
  inv := y.inv
  sub := fun a q => y.sub a (x.sub a q)
  new := fun a q => (y.new a q).elim (fun q => (x.new a q).elim .inl fun q' => .inr ⟨q'.1, q'.2.elim fun o e => y.there a o (hn a q) e⟩) fun q => .inr ⟨x.nay hz q.1, q.2⟩
theorem AdvJ.mono {J Jg J2 Jg2 G G1 : Nat → Prop} {s s1 : Shared} (x : AdvJ w J Jg s G s1 G1) (h : ∀ b, J b → J2 b) (hg : ∀ b, Jg b → Jg2 b) : AdvJ w J2 Jg2 s G s1 G1 :=
  ⟨fun b o nj e => x.there b o (fun q => nj (h b q)) e, fun b o e nj nt => x.keep b o e (fun q => nj (h b q)) nt, x.tab, fun i z nj e => x.gens i z (fun q => nj (hg i q)) e, x.os, x.inv, x.sub, x.new⟩
theorem AdvJ.ext {J Jg G G1 G2 : Nat → Prop} {s s1 s2 : Shared} (x : AdvJ w J Jg s G s1 G1) (y : Ext w s1 G1 s2 G2) (hz : Th J s1) : AdvJ w J Jg s G s2 G2 := x.trans (y.j Nil) (fun _ h => h.elim) (fun _ h => h.elim) (fun _ _ h => h) hz
theorem Ext.any {G G1 : Nat → Prop} {s s1 : Shared} (x : Ext w s G s1 G1) (J Jg : Nat → Prop) : AdvJ w J Jg s G s1 G1 := (x.j Nil).mono (fun _ h => h.elim) fun _ h => h.elim

/-- a comprehension's block at work: its frame, its list -/
structure CI (w : Wd) (env : Env) (W : Nat → Prop) (D₀ : Nat) (κ : Env2) (F : Nat → Prop) (ρ : Rho) (acc : List D) (s : Shared) : Prop where
  fo : Fo w env F W (fun _ => 0) κ ρ s
  lst : LstIs s.heap F D₀ acc
  nf : ¬ F D₀
  nw : ¬ W D₀
  own : Own w D₀
abbrev WD (W : Nat → Prop) (D₀ : Nat) : Nat → Prop := fun a => W a ∨ a = D₀
theorem CI.there {D₀ : Nat} {acc : List D} (C : CI w env W D₀ κ F ρ acc s) : ∃ o, s.heap.get? D₀ = some o := let ⟨_, q, _⟩ := C.lst; q.look
theorem CI.all {D₀ : Nat} {acc : List D} (C : CI w env W D₀ κ F ρ acc s) : Th (WD W D₀) s := fun a h => h.elim (C.fo.wthere a) fun h => h ▸ C.there
theorem CI.apart {D₀ : Nat} {acc : List D} (C : CI w env W D₀ κ F ρ acc s) : ∀ a, F a → ¬ WD W D₀ a := fun a h q => q.elim (C.fo.fw a h) fun q => C.nf (q ▸ h)
theorem CI.off {D₀ : Nat} {acc : List D} (C : CI w env W D₀ κ F ρ acc s) {a : Nat} (e : s.heap.get? a = none) : ¬ WD W D₀ a := fun h => (C.all a h).elim fun _ q => Mine.nay e q
theorem CI.cell {D₀ : Nat} {acc : List D} (C : CI w env W D₀ κ F ρ acc s) : CellOff κ env (One D₀) := fun y d c hm hk hc q => by
  obtain ⟨v, K, _⟩ := C.fo.cons y d hm
  obtain ⟨vs, hl, _⟩ := C.lst
  exact lst_ne_cell (K.cell hk hc).2.2 hl q.symm
/-- what others change leaves the block as it is -/
theorem CI.stepJ {D₀ : Nat} {acc : List D} (C : CI w env W D₀ κ F ρ acc s) {J Jg : Nat → Prop} {F' : Nat → Prop} (a : AdvJ w J Jg s F s' F') (jF : ∀ a, J a → ¬ F a) (jW : ∀ a, J a → ¬ WD W D₀ a) (jc : CellOff κ env J) : CI w env W D₀ κ F' ρ acc s' where
  fo := C.fo.stepJ a jF (fun a h q => jW a h (.inl q)) jc
  lst := by
    obtain ⟨vs, hl, r⟩ := C.lst
    exact ⟨vs, hl.at fun o e => a.keep _ o e (fun h => jW _ h (.inr rfl)) C.own.notTab, r.mono (fun b o h e => a.keep b o e (fun q => jF b q h) (C.fo.fz b h).1.notTab) a.sub⟩
  nf := fun h => (a.new _ h).elim C.nf fun h => C.off h.1 (.inr rfl)
  nw := C.nw
  own := C.own
theorem CI.ext {D₀ : Nat} {acc : List D} (C : CI w env W D₀ κ F ρ acc s) {G' : Nat → Prop} (x : Ext w s F s' G') : CI w env W D₀ κ G' ρ acc s' :=
  C.stepJ (x.j Nil) (fun _ h => h.elim) (fun _ h => h.elim) (fun _ _ _ _ _ _ h => h)

/-- the block's tests -/
noncomputable def Tests (w : Wd) (n : Nat) (sc : Scope) (κ : Env2) (ρ : Rho) : List Expr → (Bool → Prop) → Prop
  | [], K => K true
  | [c], K => TV w n sc κ (dropMl ρ) c K
  | _, _ => False
inductive Emitted (w : Wd) (env : Env) (W : Nat → Prop) (D₀ : Nat) (κ : Env2) (J Jg : Nat → Prop) (s : Shared) (F : Nat → Prop) (K : Rho → List D → Prop) (s' : Shared) : Prop
  | mk (F' : Nat → Prop) (ρ' : Rho) (acc' : List D) (k : K ρ' acc') (C : CI w env W D₀ κ F' ρ' acc' s') (a : AdvJ w J Jg s F s' F')
/-- what the block does with a turn -/
structure EM (w : Wd) (n : Nat) (sc : Scope) (κ : Env2) (emit : Env → Value → Sem Unit) (ρ : Rho) (acc : List D) (K : Rho → List D → Prop) : Prop where
  run : ∀ (A : Around) (env : Env) (F W : Nat → Prop) (D₀ : Nat) (s : Shared), env.scope = sc → Bud A n → Frm A → CI w env W D₀ κ F ρ acc s → wpAny (MM w) A (emit env (.ref D₀)) (fun _ s' => Emitted w env W D₀ κ (WD W D₀) Nil s F K s') NoE s

/-- J's things, apart from the block -/
noncomputable def JBlk (w : Wd) (s : Shared) (F W : Nat → Prop) (D₀ : Nat) (J : Nat → Prop) : Prop := ∀ a, J a → Own w a ∧ (∃ o, s.heap.get? a = some o) ∧ ¬ F a ∧ ¬ WD W D₀ a
abbrev WDJ (W : Nat → Prop) (D₀ : Nat) (J : Nat → Prop) : Nat → Prop := fun a => WD W D₀ a ∨ J a
noncomputable def JX (s s' : Shared) (F J J' : Nat → Prop) : Prop := ∀ a, J' a → (J a ∨ s.heap.get? a = none) ∧ (∃ o, s'.heap.get? a = some o) ∧ ¬ F a
inductive CompAt (w : Wd) (env : Env) (W : Nat → Prop) (D₀ : Nat) (κ : Env2) (J Jg : Nat → Prop) (s : Shared) (F : Nat → Prop) (I : List D → Rho → List D → Prop) (P : (Nat → Prop) → (Nat → Prop) → List D → Shared → Prop) (m : Nat) (s' : Shared) : Prop
  | mk (F' : Nat → Prop) (ρ' : Rho) (acc' : List D) (J' : Nat → Prop) (ds : List D) (e : m = ds.length) (i : I ds ρ' acc') (C : CI w env W D₀ κ F' ρ' acc' s') (x : AdvJ w (WDJ W D₀ J) Jg s F s' F') (p : P F' J' ds s') (t : Th J s') (z : JX s s' F' J J')
noncomputable def CompEnd (w : Wd) (env : Env) (W : Nat → Prop) (D₀ : Nat) (κ : Env2) (J Jg : Nat → Prop) (s : Shared) (F : Nat → Prop) (K : Rho → List D → Prop) (r : Result) (s' : Shared) : Prop := r = .ok .next ∧ Emitted w env W D₀ κ (WDJ W D₀ J) Jg s F K s'
inductive kTurnC (w : Wd) (n : Nat) (sc : Scope) (κ : Env2) (tgt : Expr) (ifs : List Expr) (emit : Env → Value → Sem Unit) (I : List D → Rho → List D → Prop) (d : D) (ds : List D) (ρ : Rho) (acc : List D) : Prop
  | mk (ρ1 : Rho) (a : AS w n sc κ ρ tgt d ρ1) (t : Tests w n sc κ ρ1 ifs (kIte (EM w n sc κ emit ρ1 acc (I ds)) (I ds ρ1 acc)))
theorem comp_loop {elt : Expr} {gens : List Comprehension} {scope : Scope} {pos : Pos} {k : Nat} {ipos : Pos} {tgt : Expr} {ifs : List Expr} {emit : Env → Value → Sem Unit}
    (hturn : ∀ it acc env, compTurn (.ListComp elt gens scope pos) k it acc env = (do
      standAt ipos
      match ← pyNext it with
      | none => pure (.done .next)
      | some v =>
        letOwnedTupleGo tgt it v
        assign tgt env v
        let mut ok := true
        for c in ifs do
          if ok then ok ← isTrue c env (eval c env)
        if ok then emit env acc
        again (.compLoop (.ListComp elt gens scope pos) k it acc env)))
    {K : Rho → List D → Prop} (I : List D → Rho → List D → Prop) (hI : ∀ d ds ρ acc, I (d :: ds) ρ acc → kTurnC w n sc κ tgt ifs emit I d ds ρ acc)
    (hE : ∀ ρ acc, I [] ρ acc → K ρ acc) {A : Around} {it : Value} {J Jg : Nat → Prop} {P : (Nat → Prop) → (Nat → Prop) → List D → Shared → Prop} {ds : List D} {acc : List D} {D₀ : Nat}
    (hs : env.scope = sc) (b : Bud A n) (f : Frm A) (C : CI w env W D₀ κ F ρ acc s) (it0 : Itr w n A tgt it Jg P) (hP : P F J ds s) (hJ : JBlk w s F W D₀ J) (hJc : CellOff κ env J) (i0 : I ds ρ acc) :
    codeAny (MM w) A (.compLoop (.ListComp elt gens scope pos) k it (.ref D₀) env) (CompEnd w env W D₀ κ J Jg s F K) s := by
  refine codeAny_loop rfl (CompAt w env W D₀ κ J Jg s F I P) (fun m s2 hI2 => ?_) ds.length ⟨F, ρ, acc, J, ds, rfl, i0, C, Ext.any (Adv.refl C.fo.inv) _ _, hP, fun a h => (hJ a h).2.1, fun a h => ⟨.inl h, (hJ a h).2.1, (hJ a h).2.2.1⟩⟩
  obtain ⟨F2, ρ2, acc2, J', ds2, rfl, i2, C2, X2, P2, J0, J2⟩ := hI2
  show wpAny _ A ((compTurn (.ListComp elt gens scope pos) k it (.ref D₀) env).onRaise (fun x => do noteFrame x env; theTreesLotGoes x)) _ _ s2
  refine wpAny_noted ?_
  rw [hturn]
  have base : ∀ a, (J a ∨ s.heap.get? a = none) → Own w a ∧ ¬ WD W D₀ a := fun a h => h.elim (fun h => ⟨(hJ a h).1, (hJ a h).2.2.2⟩) fun h => ⟨C.fo.inv.own h, C.off h⟩
  have hJc' : CellOff κ env J' := fun y d c hm hk hc q => (J2 c q).1.elim (hJc y d c hm hk hc) fun h => C.fo.cellNew (J := One c) (fun a e => e ▸ h) y d c hm hk hc rfl
  have jz : JOk w J' F2 s2 := fun a h => ⟨(J2 a h).2.2, (base a (J2 a h).1).1, (J2 a h).2.1⟩
  have all2 : Th (WDJ W D₀ J) s2 := fun a h => h.elim (C2.all a) (J0 a)
  have step {s3 : Shared} {F3 : Nat → Prop} (a : AdvJ w J' Jg s2 F2 s3 F3) : CI w env W D₀ κ F3 ρ2 acc2 s3 ∧ AdvJ w (WDJ W D₀ J) Jg s F s3 F3 :=
    ⟨C2.stepJ a (fun b h => (J2 b h).2.2) (fun b h => (base b (J2 b h).1).2) hJc', X2.trans a (fun a h => (J2 a h).1.elim (fun h => .inl (.inr h)) .inr) (fun i h => .inl h) (fun a h q => (J2 a q).2.2 h) all2⟩
  refine wpAny_bind (wpAny_standAt (wpAny_bind ?_))
  cases ds2 with
  | nil =>
    refine wpAny_mono (it0.stop F2 J' s2 b f C2.fo.inv C2.fo.fz jz P2) (fun r s3 h3 => ?_) fun _ _ x => x.elim
    obtain ⟨rfl, a⟩ := h3
    exact wpAny_pure ⟨rfl, F2, ρ2, acc2, hE _ _ i2, (step a).1, (step a).2⟩
  | cons d ds3 =>
    refine wpAny_mono (it0.step F2 J' d ds3 s2 b f C2.fo.inv C2.fo.fz jz P2) (fun r s3 h3 => ?_) fun _ _ x => x.elim
    obtain ⟨v, rfl, h3⟩ := h3
    refine wpAny_bind (wpAny_mono h3 (fun _ s4 h4 => ?_) fun _ _ x => x.elim)
    obtain ⟨F4, J4, r4, P4, a, jt, jn⟩ := h4
    obtain ⟨C4, X4⟩ := step a
    have b4 : JX s s4 F4 J J4 := fun c hc => ⟨(jn c hc).1.elim (fun h => (J2 c h).1) fun h => .inr (X2.nay all2 h.1), (jn c hc).2.2, (jn c hc).2.1⟩
    have J04 : Th J s4 := fun c hc => by
      by_cases q : J' c
      · exact jt c q
      · exact (J0 c hc).elim fun o e => a.there c o q e
    have all4 : Th (WDJ W D₀ J) s4 := fun a h => h.elim (C4.all a) (J04 a)
    obtain ⟨ρ1, as, tests⟩ := hI d ds3 ρ2 acc2 i2
    refine wpAny_bind (wpAny_mono (as.run A env F4 W _ s4 v hs b C4.fo r4) (fun _ s5 h5 => ?_) fun _ _ x => x.elim)
    obtain ⟨F5, R5, X5⟩ := h5
    have C5 : CI w env W D₀ κ F5 ρ1 acc2 s5 := ⟨R5, by
      obtain ⟨vs, hl, r⟩ := C4.lst
      exact ⟨vs, hl.at fun o e => X5.keep _ o e C4.nw C4.own.notTab, r.mono (fun b o h e => X5.keep b o e (C4.fo.fw b h) (C4.fo.fz b h).1.notTab) X5.fsub⟩, fun q => (X5.fnew _ q).elim C4.nf fun q => q.elim C4.nw fun q => C4.off q.1 (.inr rfl), C4.nw, C4.own⟩
    have Y5 := X5.j R5 (WD W D₀) Nil fun _ h => .inl h
    -- the rest of the turn
    have fin {s6 : Shared} {F6 : Nat → Prop} {ρ6 : Rho} {acc6 : List D} (i6 : I ds3 ρ6 acc6) (C6 : CI w env W D₀ κ F6 ρ6 acc6 s6) (Y : AdvJ w (WD W D₀) Nil s4 F4 s6 F6) : ∃ m, m < (d :: ds3).length ∧ CompAt w env W D₀ κ J Jg s F I P m s6 :=
      have nj : ∀ b, (J b ∨ s.heap.get? b = none) → ¬ WD W D₀ b := fun b h => (base b h).2
      ⟨ds3.length, Nat.lt_succ_self _, F6, ρ6, acc6, J4, ds3, rfl, i6, C6, X4.trans Y (fun b h => .inl (.inl h)) (fun _ h => h.elim) C4.apart all4,
        it0.stab F4 F6 J4 ds3 s4 s6 P4 Y.sub (fun b o h e => Y.keep b o e (C4.apart b h) (C4.fo.fz b h).1.notTab) (fun b o h e => Y.keep b o e (nj b (b4 b h).1) (base b (b4 b h).1).1.notTab) (fun i x e => Y.gens i x (fun h => h) e),
        fun b h => (J04 b h).elim fun o e => Y.there b o (nj b (.inl h)) e,
        fun b h => ⟨(b4 b h).1, (b4 b h).2.1.elim fun o e => Y.there b o (nj b (b4 b h).1) e, fun q => (Y.new b q).elim (b4 b h).2.2 fun q => (b4 b h).2.1.elim fun _ e => nay q.1 e⟩⟩
    have emits {s6 : Shared} {F6 : Nat → Prop} (x : Ext w s5 F5 s6 F6) (h : EM w n sc κ emit ρ1 acc2 (I ds3)) : wpAny (MM w) A (emit env (.ref D₀)) (fun _ s' => ∃ m, m < (d :: ds3).length ∧ CompAt w env W D₀ κ J Jg s F I P m s') NoE s6 := by
      have C6 := C5.ext x
      refine wpAny_mono (h.run A env F6 W D₀ s6 hs b f C6) (fun _ s7 h7 => ?_) fun _ _ x => x
      obtain ⟨F7, ρ7, acc7, i7, C7, Y7⟩ := h7
      exact fin i7 C7 ((Y5.ext x C5.all).trans Y7 (fun b h => .inl h) (fun _ h => .inl h) C6.apart C6.all)
    match ifs, tests with
    | [], tests =>
      refine wpAny_bind (wpAny_tests_nil ?_)
      exact wpAny_bind (wpAny_mono (emits (.refl C5.fo.inv) tests) (fun _ s7 h7 => wpAny_pure ⟨rfl, h7⟩) fun _ _ x => x.elim)
    | [c], tests =>
      refine wpAny_bind (wpAny_tests_one (wpAny_mono (tests.run A env F5 s5 hs b f C5.fo.rd0) (fun ok s6 h6 => ?_) fun _ _ x => x.elim))
      obtain ⟨F6, h6, x6⟩ := h6
      cases ok with
      | true => exact wpAny_bind (wpAny_mono (emits x6 h6) (fun _ s7 h7 => wpAny_pure ⟨rfl, h7⟩) fun _ _ x => x.elim)
      | false => exact wpAny_pure ⟨rfl, fin h6 (C5.ext x6) (Y5.ext x6 C5.all)⟩
    | _ :: _ :: _, tests => exact tests.elim

/-- the block's value appended -/
abbrev kElt (ρ : Rho) (acc : List D) (K : Rho → List D → Prop) (d : D) : Prop := K ρ (acc ++ [d])
abbrev eltS (elt : Expr) : Env → Value → Sem Unit := fun env acc => do let _ ← call (.builtin "list.append") [acc, ← eval elt env]
theorem EM.elt {elt : Expr} {acc : List D} {K : Rho → List D → Prop} (hlen : acc.length ≤ sizeLine) (h : EV w n sc κ (dropMl ρ) elt (kElt ρ acc K)) : EM w n sc κ (eltS elt) ρ acc K := by
  constructor
  intro A env F W D₀ s hs b f C
  refine wpAny_bind (h.then hs b f C.fo.rd0 fun v s1 G1 d k r x1 _ => ?_)
  have C1 := C.ext x1
  obtain ⟨vs, hl, rl⟩ := C1.lst
  refine wpAny_bind (wpAny_list_append_plain hl.plain (fun h' hp hsb => wpAny_pure ?_) (Nat.le_trans (Nat.le_of_eq rl.length) hlen))
  rw [List.push_toArray] at hp
  obtain ⟨o, ko, ho, hc, _⟩ := id hl
  have nG : ∀ b, One D₀ b → ¬ G1 b := fun b h q => C1.nf (h ▸ q)
  have a : AdvJ w (One D₀) Nil s1 G1 { s1 with heap := h', toks := s1.toks } G1 := AdvJ.one C1.fo.inv (fun a h => ⟨nG a h, h ▸ C1.own, h ▸ C1.there⟩) ⟨o, ho, hc, trivial⟩ (by decide) (fun b o nb e => (hsb.2 b nb).trans e) _ _ (R := fun _ => True)
  exact ⟨G1, ρ, acc ++ [d], k, ⟨C1.fo.stepJ a nG (fun b h q => C1.nw (h ▸ q)) C1.cell, ⟨_, LstAt.ofPlain hp, (rl.append (.cons r .nil)).mono (fun b o hb e => a.keep b o e (fun h => nG b h hb) (C1.fo.fz b hb).1.notTab) fun _ h => h⟩, C1.nf, C1.nw, C1.own⟩,
    (x1.any (WD W D₀) Nil).trans a (fun b h => .inl (.inr h)) (fun _ h => .inl h) (fun b h q => nG b q h) C1.all⟩

theorem compStart_two {elt target iter : Expr} {ifs : List Expr} {g₀ : Comprehension} {scope : Scope} {pos : Pos} {it acc : Value} {A : Around} {R : Result → Shared → Prop}
    (h0 : codeAny (MM w) A (.compLoop (.ListComp elt [g₀, ⟨target, iter, ifs, 0⟩] scope pos) 1 it acc env) R s)
    (h : wpAny (MM w) A (pyIter it) (fun it' s' => codeAny (MM w) A (.compLoop (.ListComp elt [g₀, ⟨target, iter, ifs, 0⟩] scope pos) 1 it' acc env) R s') (notedBy (MM w) A env fun x s' => R (.error x) s') s) :
    codeAny (MM w) A (.compStart (.ListComp elt [g₀, ⟨target, iter, ifs, 0⟩] scope pos) 1 it acc env) R s := by
  refine codeAny_of_tree ?_
  show wpAny _ _ ((compStart (.ListComp elt [g₀, ⟨target, iter, ifs, 0⟩] scope pos) 1 it acc env).onRaise (fun x => do noteFrame x env; standAt theWindowsPlace)) _ _ s
  refine wpAny_notedAt ?_
  unfold compStart
  show wpAny _ _ (ask >>= _) _ _ s
  refine wpAny_bind (wpAny_askSetting (wpAny_ite ?_))
  split
  · first
      | exact wpAny_bind (wpAny_pure (wpAny_pure (And.intro rfl h0)))
      | exact wpAny_pure (And.intro rfl h0)
  · first
      | exact wpAny_bind (wpAny_rule (wpAny_bind (wpAny_standAt (wpAny_bind (wpAny_mono h (fun it' s' h' => wpAny_pure (And.intro rfl h')) fun _ _ x => x)))))
      | (refine wpAny_bind (wpAny_rule ?_); show wpAny _ _ (standAt iter.pos >>= _) _ _ s; exact wpAny_bind (wpAny_standAt (wpAny_bind (wpAny_mono h (fun it' s' h' => wpAny_pure (And.intro rfl h')) fun _ _ x => x))))
/-- one more clause -/
theorem EM.clause {elt : Expr} {g₀ g : Comprehension} {scope : Scope} {pos : Pos} {acc : List D} {K : Rho → List D → Prop} (I : List D → Rho → List D → Prop)
    (h : IV w n sc κ (dropMl ρ) g.target g.iter (I · ρ acc)) (hI : ∀ d ds ρ acc, I (d :: ds) ρ acc → kTurnC w n sc κ g.target g.ifs (eltS elt) I d ds ρ acc)
    (hE : ∀ ρ acc, I [] ρ acc → K ρ acc) (ha : g.is_async = 0) (hs1 : ∀ env x, foldedSetIterable g.iter env x = pure x := by intro _ _; rfl) :
    EM w n sc κ (fun env acc => do
        let x ← eval g.iter env
        standAt g.iter.pos
        let x ← foldedSetIterable g.iter env x
        let _ ← runOwn (.compStart (.ListComp elt [g₀, g] scope pos) 1 (← holding [x] (pyIter x)) acc env) env) ρ acc K := by
  obtain ⟨tgt, iter, ifs, as⟩ := g
  obtain rfl : as = 0 := ha
  constructor
  intro A env F W D₀ s hs b f C
  refine wpAny_bind (wpAny_mono (h.run A env F s hs b f C.fo.rd0) (fun x s1 h1 => ?_) fun _ _ x => x)
  refine wpAny_bind (wpAny_standAt (wpAny_bind (wpAny_of_eq (hs1 env x) (wpAny_bind (wpAny_holding (wpAny_mono h1 (fun it s2 h2 => ?_) fun _ _ x => x.elim))))))
  obtain ⟨G', ds, J, Jg, P, i0, it0, hP, x1, hJ, hJg⟩ := h2
  have C1 := C.ext x1
  have loop := comp_loop (elt := elt) (gens := [g₀, ⟨tgt, iter, ifs, 0⟩]) (scope := scope) (pos := pos) (k := 1) (ipos := iter.pos) (emit := eltS elt) (fun _ _ _ => by rfl) I hI hE hs b f C1 it0 hP (fun a h => ⟨C.fo.inv.own (hJ a h).1, (hJ a h).2.1, (hJ a h).2.2, C.off (hJ a h).1⟩) (C.fo.cellNew fun a h => (hJ a h).1) i0
  refine wpAny_bind (wpAny_runOwn (codeAny_mono (compStart_two loop (it0.self _ _ _ s2 _ _ hP loop)) fun r s3 h3 => ?_))
  obtain ⟨rfl, F3, ρ3, acc3, k, C3, X3⟩ := h3
  exact wpAny_pure ⟨F3, ρ3, acc3, k, C3, (x1.any (WD W D₀) Nil).trans X3 (fun b h => h.imp (fun h => h) fun h => (hJ b h).1) (fun i h => .inr (hJg i h)) (fun b h q => q.elim (C1.apart b h) fun q => (hJ b q).2.2 h) C1.all⟩
end
end Mine
end

noncomputable section
--# Lb17
namespace Mine
open PySem PySem.W PyProof.Rows PySem.Calls

/-- the cells that a block closes over -/
noncomputable def closeL (cells : List (Str × Nat)) : List (Str × NameKind) → List (Str × Nat) → List (Str × Nat)
  | [], cs => cs
  | (x, k) :: r, cs => closeL cells r (if k == .free then (x, (cells.lookup x).getD 0) :: cs else cs)
theorem closeL_cons {cells : List (Str × Nat)} {x : Str} {k : NameKind} {r : List (Str × NameKind)} {cs : List (Str × Nat)} : (k = .free ∧ closeL cells ((x, k) :: r) cs = closeL cells r ((x, (cells.lookup x).getD 0) :: cs)) ∨ closeL cells ((x, k) :: r) cs = closeL cells r cs := by
  by_cases hk : (k == NameKind.free) = true
  · exact .inl ⟨eq_of_beq hk, congrArg (closeL cells r) (if_pos hk)⟩
  · exact .inr (congrArg (closeL cells r) (if_neg hk))
theorem closeL_mem {cells : List (Str × Nat)} {x : Str} {c : Nat} {names : List (Str × NameKind)} : ∀ {cs : List (Str × Nat)}, (x, c) ∈ closeL cells names cs → (x, c) ∈ cs ∨ ((x, .free) ∈ names ∧ c = (cells.lookup x).getD 0) :=
  List.rec (motive := fun names => ∀ {cs : List (Str × Nat)}, (x, c) ∈ closeL cells names cs → (x, c) ∈ cs ∨ ((x, .free) ∈ names ∧ c = (cells.lookup x).getD 0)) .inl (fun p r ih cs h => by
    obtain ⟨y, k⟩ := p
    rcases closeL_cons (cells := cells) (x := y) (k := k) (r := r) (cs := cs) with ⟨e, q⟩ | q
    · rw [q] at h
      exact (ih h).elim (fun h => (List.mem_cons.mp h).elim (fun z => .inr (by cases z; exact ⟨e ▸ .head _, rfl⟩)) .inl) fun h => .inr ⟨.tail _ h.1, h.2⟩
    · rw [q] at h
      exact (ih h).imp id fun h => ⟨.tail _ h.1, h.2⟩) names
theorem closeL_keep {cells : List (Str × Nat)} {p : Str × Nat} {names : List (Str × NameKind)} : ∀ {cs : List (Str × Nat)}, p ∈ cs → p ∈ closeL cells names cs :=
  List.rec (motive := fun names => ∀ {cs : List (Str × Nat)}, p ∈ cs → p ∈ closeL cells names cs) id (fun q r ih cs h => by
    rcases closeL_cons (cells := cells) (x := q.1) (k := q.2) (r := r) (cs := cs) with ⟨_, e⟩ | e
    · rw [e]; exact ih (.tail _ h)
    · rw [e]; exact ih h) names
theorem closeL_has {cells : List (Str × Nat)} {x : Str} {names : List (Str × NameKind)} : ∀ {cs : List (Str × Nat)}, (x, .free) ∈ names → (x, (cells.lookup x).getD 0) ∈ closeL cells names cs :=
  List.rec (motive := fun names => ∀ {cs : List (Str × Nat)}, (x, .free) ∈ names → (x, (cells.lookup x).getD 0) ∈ closeL cells names cs) (fun h => absurd h List.not_mem_nil)
    (fun q r ih cs h => (List.mem_cons.mp h).elim (fun e => e ▸ (closeL_keep (names := r) (.head _) : _ ∈ closeL cells r ((x, (cells.lookup x).getD 0) :: cs))) ih) names
theorem closeL_pair {cells : List (Str × Nat)} {names : List (Str × NameKind)} : ∀ {cs : List (Str × Nat)}, (names.map (·.1)).Nodup → cs.Pairwise (fun p q => p.1 ≠ q.1) → (∀ p ∈ cs, p.1 ∉ names.map (·.1)) → (closeL cells names cs).Pairwise fun p q => p.1 ≠ q.1 :=
  List.rec (motive := fun names : List (Str × NameKind) => ∀ {cs : List (Str × Nat)}, (names.map fun p => p.1).Nodup → cs.Pairwise (fun p q => p.1 ≠ q.1) → (∀ p ∈ cs, p.1 ∉ names.map fun p => p.1) → (closeL cells names cs).Pairwise fun p q => p.1 ≠ q.1) (fun _ h _ => h) (fun q r ih cs hn h hd => by
    have hn := List.nodup_cons.mp hn
    have hd' : ∀ p ∈ cs, p.1 ∉ r.map fun p => p.1 := fun p hp z => hd p hp (.tail _ z)
    rcases closeL_cons (cells := cells) (x := q.1) (k := q.2) (r := r) (cs := cs) with ⟨_, e⟩ | e
    · rw [e]
      exact ih hn.2 (List.pairwise_cons.mpr ⟨fun u hu e => hd u hu (e ▸ .head _), h⟩) fun p hp => (List.mem_cons.mp hp).elim (fun z => z ▸ hn.1) (hd' p)
    · rw [e]; exact ih hn.2 h hd') names
theorem lookup_cons_ne {α : Type} {x y : Str} {c : α} {l : List (Str × α)} (h : x ≠ y) : ((y, c) :: l).lookup x = l.lookup x := by
  rw [List.lookup_cons, beq_eq_false_iff_ne.mpr h]
theorem lookup_cons_eq {α : Type} {x : Str} {c : α} {l : List (Str × α)} : ((x, c) :: l).lookup x = some c := by
  rw [List.lookup_cons, beq_self_eq_true]
theorem lookup_uniq {x : Str} {c : Nat} {l : List (Str × Nat)} : (x, c) ∈ l → (∀ c', (x, c') ∈ l → c' = c) → l.lookup x = some c :=
  List.rec (motive := fun l => (x, c) ∈ l → (∀ c', (x, c') ∈ l → c' = c) → l.lookup x = some c) (fun h => absurd h List.not_mem_nil) (fun p r ih h hu => by
    obtain ⟨y, e⟩ := p
    by_cases q : x = y
    · obtain rfl := q
      rw [lookup_cons_eq, hu e (.head _)]
    · rw [lookup_cons_ne q]
      exact ih ((List.mem_cons.mp h).resolve_left fun z => q (congrArg Prod.fst z)) fun c' h' => hu c' (.tail _ h')) l
theorem lookup_of_mem {α : Type} {x : Str} {k : α} {l : List (Str × α)} : (l.map (·.1)).Nodup → (x, k) ∈ l → l.lookup x = some k :=
  List.rec (motive := fun l : List (Str × α) => (l.map fun p => p.1).Nodup → (x, k) ∈ l → l.lookup x = some k) (fun _ h => absurd h List.not_mem_nil) (fun p r ih hn hm => by
    obtain ⟨y, k'⟩ := p
    have hn := List.nodup_cons.mp hn
    rcases List.mem_cons.mp hm with q | q
    · cases q; exact lookup_cons_eq
    · rw [lookup_cons_ne fun (e : x = y) => hn.1 (e ▸ List.mem_map.mpr ⟨_, q, rfl⟩)]
      exact ih hn.2 q) l

theorem closureFor_of {csc : Scope} {env : Env} (h : ∀ x, (x, NameKind.free) ∈ csc.names → ∃ c, env.cells.lookup x = some c) : closureFor csc env = pure (closeL env.cells csc.names []) := by
  have key : ∀ (names : List (Str × NameKind)) (cs : List (Str × Nat)), (∀ x, (x, NameKind.free) ∈ names → ∃ c, env.cells.lookup x = some c) →
      (forIn names cs fun (x : Str × NameKind) (r : List (Str × Nat)) => (match x with
        | (name, kind) => if (kind == NameKind.free) = true then do
            let c ← cellOf env name
            pure (ForInStep.yield ((name, c) :: r))
          else pure (ForInStep.yield r) : Sem (ForInStep (List (Str × Nat))))) = (pure (closeL env.cells names cs) : Sem (List (Str × Nat))) := by
    intro names
    induction names with
    | nil => intro cs _; rfl
    | cons p r ih =>
      intro cs hf
      obtain ⟨y, k⟩ := p
      rw [List.forIn_cons]
      by_cases hk : (k == NameKind.free) = true
      · have e : k = .free := by simpa using hk
        subst e
        obtain ⟨c, hc⟩ := hf y (.head _)
        simp only [closeL, cellOf, hc, pure_bind, Option.getD_some, beq_self_eq_true, if_true]
        exact ih _ fun x hx => hf x (.tail _ hx)
      · simp only [closeL, hk]
        exact ih _ fun x hx => hf x (.tail _ hx)
  unfold closureFor
  have := key csc.names [] h
  simp only [bind_pure] at this ⊢
  exact this

/-- the block's scope within that one -/
noncomputable def reS (csc sc : Scope) : Scope :=
  { csc with names := csc.names.map fun (n, k) => if (k == .free && sc.kind == .function && sc.names.lookup n == some .cell) then (n, .cell) else (n, k) }
theorem lookup_reS {csc sc : Scope} {x : Str} {k : NameKind} (h : csc.names.lookup x = some k) : (reS csc sc).names.lookup x = some (if (k == .free && sc.kind == .function && sc.names.lookup x == some .cell) then .cell else k) := by
  unfold reS
  simp only
  generalize csc.names = names at h
  induction names with
  | nil => cases h
  | cons p r ih =>
    obtain ⟨y, k'⟩ := p
    have e1 : (if (k' == NameKind.free && sc.kind == .function && sc.names.lookup y == some .cell) = true then (y, NameKind.cell) else (y, k')) = (y, if (k' == NameKind.free && sc.kind == .function && sc.names.lookup y == some .cell) = true then .cell else k') := by split <;> rfl
    show ((if (k' == NameKind.free && sc.kind == .function && sc.names.lookup y == some .cell) = true then (y, NameKind.cell) else (y, k')) :: r.map _).lookup x = _
    rw [e1]
    by_cases q : x = y
    · obtain rfl := q
      rw [lookup_cons_eq] at h ⊢
      rw [Option.some.inj h]
    · rw [lookup_cons_ne q] at h ⊢
      exact ih h

/-- where a block's name comes from -/
inductive Src (csc sc : Scope) (κ : Env2) (ρ : Rho) (x : Str) (d : D) : Prop
  | cap {e : Ent} : csc.names.lookup x = some .free → (sc.names.lookup x = some .cell ∨ sc.names.lookup x = some .free) → (x, e) ∈ ρ → e.read = some d → Src csc sc κ ρ x d
  | capK : csc.names.lookup x = some .free → (sc.names.lookup x = some .cell ∨ sc.names.lookup x = some .free) → (x, d) ∈ κ → Src csc sc κ ρ x d
  | glo : csc.names.lookup x = some .globalImplicit → sc.names.lookup x = some .globalImplicit → (x, d) ∈ κ → Src csc sc κ ρ x d
  | top {v : Value} : csc.names.lookup x = some .globalImplicit → GlobIs x v → (∀ h G, Rep h G v d) → Src csc sc κ ρ x d

noncomputable def kindsOk (csc : Scope) : Bool := csc.names.all fun p => p.2 == .local || p.2 == .free || p.2 == .globalImplicit
noncomputable def freeIn (csc : Scope) (κc : Env2) : Bool := csc.names.all fun p => p.2 != .free || κc.any fun q => p.1 == q.1
noncomputable def locsOk (csc : Scope) : Rho → Bool
  | [] => true
  | (x, .v none) :: r => csc.names.lookup x == some .local && locsOk csc r
  | _ => false
theorem locsOk_mem {csc : Scope} {ρc : Rho} (h : locsOk csc ρc = true) {x : Str} {e : Ent} (hm : (x, e) ∈ ρc) : e = .v none ∧ csc.names.lookup x = some .local :=
  List.rec (motive := fun ρc => locsOk csc ρc = true → (x, e) ∈ ρc → e = .v none ∧ csc.names.lookup x = some .local) (fun _ h => absurd h List.not_mem_nil) (fun p r ih h hm => by
    obtain ⟨y, e'⟩ := p
    have h2 : (y, e').2 = .v none ∧ (csc.names.lookup y == some .local && locsOk csc r) = true := by
      cases e' with
      | v o =>
        cases o with
        | none => exact ⟨rfl, h⟩
        | some _ => cases h
      | _ => cases h
    have h3 := Bool.and_eq_true_iff.mp h2.2
    rcases List.mem_cons.mp hm with q | q
    · cases q; exact ⟨h2.1, eq_of_beq h3.1⟩
    · exact ih h3.2 q) ρc h hm

/-- what a block's names must be -/
structure BlockOk (csc sc : Scope) (κ : Env2) (ρ : Rho) (κc : Env2) (ρc : Rho) : Prop where
  kind : csc.kind = .function
  kinds : kindsOk csc = true
  names : (csc.names.map (·.1)).Nodup
  frees : freeIn csc κc = true
  locs : locsOk csc ρc = true
  nodup : (ρc.map (·.1)).Nodup
  src : ∀ x d, (x, d) ∈ κc → (x == ("__classdict__" : Str)) = false ∧ Src csc sc κ ρ x d

/-- the whole block -/
structure CB (w : Wd) (n : Nat) (sc : Scope) (κ : Env2) (ρ : Rho) (elt : Expr) (gens : List Comprehension) (csc : Scope) (pos : Pos) (tgt : Expr) (ds : List D) (Q : List D → Prop) : Prop where
  run : ∀ (A : Around) (env : Env) (F W : Nat → Prop) (D₀ : Nat) (s : Shared) (it : Value) (J Jg : Nat → Prop) (P : (Nat → Prop) → (Nat → Prop) → List D → Shared → Prop), env.scope = sc → Bud A n → Frm A → CI w env W D₀ κ F ρ [] s → Itr w n A tgt it Jg P → P F J ds s →
    JBlk w s F W D₀ J → CellOff κ env J → codeAny (MM w) A (.compStart (.ListComp elt gens csc pos) 0 it (.ref D₀) env) (CompEnd w env W D₀ κ J Jg s F fun _ => Q) s

section
variable {w : Wd} {n : Nat} {sc : Scope} {κ : Env2} {ρ : Rho} {env : Env} {F W G G' : Nat → Prop} {ad : Str → Nat} {s s' : Shared}

theorem CB.one {elt tgt iter : Expr} {ifs : List Expr} {csc : Scope} {pos : Pos} {ds : List D} {Q : List D → Prop} (I : List D → Rho → List D → Prop) (i0 : I ds ρ [])
    (hI : ∀ d ds ρ acc, I (d :: ds) ρ acc → kTurnC w n sc κ tgt ifs (eltS elt) I d ds ρ acc) (hE : ∀ ρ acc, I [] ρ acc → Q acc) : CB w n sc κ ρ elt [⟨tgt, iter, ifs, 0⟩] csc pos tgt ds Q :=
  ⟨fun _ _ _ _ _ s _ _ _ _ hs b f C it0 hP hJ hJc =>
    have loop := comp_loop (K := fun _ => Q) (fun it acc env => compTurn_list elt tgt iter ifs csc pos it acc env) I hI hE hs b f C it0 hP hJ hJc i0
    codeAny_compStart_list loop (it0.self _ _ _ s _ _ hP loop)⟩
/-- the clause within -/
abbrev clauseS (elt : Expr) (g₀ g : Comprehension) (csc : Scope) (pos : Pos) : Env → Value → Sem Unit := fun env acc => do
  let x ← eval g.iter env
  standAt g.iter.pos
  let x ← foldedSetIterable g.iter env x
  let _ ← runOwn (.compStart (.ListComp elt [g₀, g] csc pos) 1 (← holding [x] (pyIter x)) acc env) env
theorem compTurn_two {elt tgt iter tgt2 iter2 : Expr} {ifs ifs2 : List Expr} {csc : Scope} {pos : Pos} (it acc : Value) (env : Env) :
    compTurn (.ListComp elt [⟨tgt, iter, ifs, 0⟩, ⟨tgt2, iter2, ifs2, 0⟩] csc pos) 0 it acc env = (do
      standAt iter.pos
      match ← pyNext it with
      | none => pure (.done .next)
      | some v =>
        letOwnedTupleGo tgt it v
        assign tgt env v
        let mut ok := true
        for c in ifs do
          if ok then ok ← isTrue c env (eval c env)
        if ok then clauseS elt ⟨tgt, iter, ifs, 0⟩ ⟨tgt2, iter2, ifs2, 0⟩ csc pos env acc
        again (.compLoop (.ListComp elt [⟨tgt, iter, ifs, 0⟩, ⟨tgt2, iter2, ifs2, 0⟩] csc pos) 0 it acc env)) := by
  show ((do
      standAt iter.pos
      match ← pyNext it with
      | none => pure (.done .next)
      | some v =>
        letOwnedTupleGo tgt it v
        assign tgt env v
        let mut ok := true
        for c in ifs do
          if ok then ok ← isTrue c env (eval c env)
        if ok then
          match (some ⟨tgt2, iter2, ifs2, 0⟩ : Option Comprehension) with
          | some g' =>
            let x ← eval g'.iter env
            standAt g'.iter.pos
            let x ← foldedSetIterable g'.iter env x
            let _ ← runOwn (.compStart (.ListComp elt [⟨tgt, iter, ifs, 0⟩, ⟨tgt2, iter2, ifs2, 0⟩] csc pos) 1 (← holding [x] (pyIter x)) acc env) env
          | none => do let _ ← call (.builtin "list.append") [acc, ← eval elt env]
        again (.compLoop (.ListComp elt [⟨tgt, iter, ifs, 0⟩, ⟨tgt2, iter2, ifs2, 0⟩] csc pos) 0 it acc env)) : Sem PySem.Fin) = _
  simp only [bind_assoc, pure_bind]
theorem CB.two {elt tgt iter : Expr} {ifs : List Expr} {g : Comprehension} {csc : Scope} {pos : Pos} {ds : List D} {Q : List D → Prop} (I : List D → Rho → List D → Prop) (i0 : I ds ρ [])
    (hI : ∀ d ds ρ acc, I (d :: ds) ρ acc → kTurnC w n sc κ tgt ifs (clauseS elt ⟨tgt, iter, ifs, 0⟩ g csc pos) I d ds ρ acc) (hE : ∀ ρ acc, I [] ρ acc → Q acc) (ha : g.is_async = 0) : CB w n sc κ ρ elt [⟨tgt, iter, ifs, 0⟩, g] csc pos tgt ds Q := by
  obtain ⟨tgt2, iter2, ifs2, as⟩ := g
  obtain rfl : as = 0 := ha
  constructor
  intro A env F W D₀ s it J Jg P hs b f C it0 hP hJ hJc
  have loop := comp_loop (K := fun _ => Q) (elt := elt) (gens := [⟨tgt, iter, ifs, 0⟩, ⟨tgt2, iter2, ifs2, 0⟩]) (scope := csc) (pos := pos) (k := 0) (ipos := iter.pos) (tgt := tgt) (ifs := ifs) (emit := clauseS elt ⟨tgt, iter, ifs, 0⟩ ⟨tgt2, iter2, ifs2, 0⟩ csc pos) (fun it acc env => compTurn_two it acc env) I hI hE hs b f C it0 hP hJ hJc i0
  exact codeAny_compStart_list loop (it0.self _ _ _ s _ _ hP loop)

/-- what a block's name is in the frame around -/
theorem VarAt.cell {h : Heap} {x : Str} {v : Value} (V : VarAt w env h x v) (hk : env.kindOf x = some .cell ∨ env.kindOf x = some .free) : ∃ c, env.cells.lookup x = some c ∧ Own w c ∧ h.IsCell c (some v) := by
  cases V with
  | loc hk2 _ _ _ => exact hk.elim (fun q => nomatch q.symm.trans hk2) fun q => nomatch q.symm.trans hk2
  | cel _ _ hc oc hv => exact ⟨_, hc, oc, hv⟩
  | glo hk2 _ => exact hk.elim (fun q => nomatch q.symm.trans hk2) fun q => nomatch q.symm.trans hk2
inductive CellHas (w : Wd) (env : Env) (s : Shared) (G : Nat → Prop) (x : Str) (d : D) : Prop
  | mk (c : Nat) (v : Value) (hc : env.cells.lookup x = some c) (oc : Own w c) (hv : s.heap.IsCell c (some v)) (r : Rep s.heap G v d)
theorem Src.cell {csc : Scope} {x : Str} {d : D} (S : Src csc sc κ ρ x d) (hs : env.scope = sc) (R : Rd w env G κ ρ s) (hk : csc.names.lookup x = some .free) : CellHas w env s G x d := by
  have of {v : Value} (V : VarAt w env s.heap x v) (r : Rep s.heap G v d) (h : sc.names.lookup x = some .cell ∨ sc.names.lookup x = some .free) : CellHas w env s G x d := by
    subst hs
    obtain ⟨c, hc, oc, hv⟩ := V.cell h
    exact ⟨c, v, hc, oc, hv, r⟩
  cases S with
  | cap h1 h2 h3 h4 => exact (R.var x _ _ h3 h4).elim fun _ p => of p.1 p.2 h2
  | capK h1 h2 h3 => exact (R.con x _ h3).elim fun _ p => of p.1 p.2 h2
  | glo h1 h2 h3 => exact nomatch hk.symm.trans h1
  | top h1 _ _ => exact nomatch hk.symm.trans h1
theorem BlockOk.free {csc : Scope} {κc : Env2} {ρc : Rho} (B : BlockOk csc sc κ ρ κc ρc) (hs : env.scope = sc) (R : Rd w env G κ ρ s) {x : Str} (hm : (x, NameKind.free) ∈ csc.names) : ∃ d, (x, d) ∈ κc ∧ CellHas w env s G x d := by
  have h := List.all_eq_true.mp B.frees _ hm
  obtain ⟨⟨y, d⟩, hy, e⟩ := List.any_eq_true.mp h
  obtain rfl : x = y := eq_of_beq e
  exact ⟨d, hy, (B.src x d hy).2.cell hs R (lookup_of_mem B.names hm)⟩
theorem close_mem {csc : Scope} {κc : Env2} {ρc : Rho} (B : BlockOk csc sc κ ρ κc ρc) (hs : env.scope = sc) (R : Rd w env G κ ρ s) {x : Str} {c : Nat} (hm : (x, c) ∈ closeL env.cells csc.names []) : (x, NameKind.free) ∈ csc.names ∧ env.cells.lookup x = some c := by
  rcases closeL_mem hm with q | ⟨q1, q2⟩
  · cases q
  · obtain ⟨_, _, c', _, hc', _⟩ := B.free hs R q1
    rw [hc'] at q2
    exact ⟨q1, q2 ▸ hc'⟩
/-- the block's own frame -/
theorem blk_fo {csc : Scope} {κc : Env2} {ρc : Rho} (B : BlockOk csc sc κ ρ κc ρc) (hs : env.scope = sc) (R : Rd w env G κ ρ s) {cenv : Env} {C : Nat} {m : Str → Option Value} {s2 s3 : Shared} {G2 : Nat → Prop} (x2 : Ext w s G s2 G2) (Y : Ext w s2 G2 s3 G2) (nC : s2.heap.get? C = none) (hns : s3.heap.Ns C m)
    (e1 : cenv.scope = reS csc sc) (e2 : cenv.locals = C) (e3 : cenv.cells = closeL env.cells csc.names []) (e4 : cenv.globals = env.globals) (e5 : cenv.builtins = env.builtins) (old : ∀ b o, s2.heap.get? b = some o → s3.heap.get? b = some o) : Fo w cenv G2 (One C) (fun _ => 0) κc ρc s3 where
  inv := Y.inv
  st := ⟨by rw [e1]; exact B.kind, e4.trans R.st.glob, e5.trans R.st.blt⟩
  fz := Y.gz x2.inv (R.ext x2).gz
  fw := fun a h q => (R.ext x2).gz.nay (q ▸ nC) h
  wz := fun a q => q ▸ ⟨x2.inv.own nC, (ns_data hns).elim fun o h => h.elim fun _ h => h.elim fun _ h => ⟨o, h.1⟩⟩
  wl := e2
  ns := ⟨_, e2 ▸ hns⟩
  cells := by
    rw [e3]
    refine (closeL_pair B.names List.Pairwise.nil (fun _ h => absurd h List.not_mem_nil)).imp_of_mem fun {p q} hp hq hne hc => hne ?_
    have h1 := (close_mem B hs R (x := p.1) (c := p.2) hp).2
    have h2 := (close_mem B hs R (x := q.1) (c := q.2) hq).2
    rw [hc] at h1
    exact name_of_addr R.cells (mem_of_lookup h1) (mem_of_lookup h2)
  nodup := B.nodup
  ents := fun x e hm => by
    obtain ⟨rfl, hl⟩ := locsOk_mem B.locs hm
    exact DeclAt.loc (by rw [Env.kindOf, e1, lookup_reS hl]; rfl)
  cons := fun x d hm => by
    obtain ⟨hcd, S⟩ := B.src x d hm
    have capture (hl : csc.names.lookup x = some .free) : ∃ v, ConAt w cenv s3.heap (One C) x v ∧ Rep s3.heap G2 v d := by
      obtain ⟨c, v, hc, oc, ⟨o, eo, hd⟩, r⟩ := S.cell hs R hl
      have eo2 := x2.keepOwn oc eo
      refine ⟨v, .fre (c := c) ?_ hcd ?_ oc (fun q => nay nC (q ▸ eo2)) ⟨o, old _ _ eo2, hd⟩, Y.rep (R.ext x2).gz (x2.rep R.gz r)⟩
      · rw [Env.kindOf, e1, lookup_reS hl]
        split
        · exact .inl rfl
        · exact .inr rfl
      · rw [e3]
        refine lookup_uniq (c := c) ?_ fun c' h' => (Option.some.inj (hc.symm.trans (close_mem B hs R h').2)).symm
        have := closeL_has (cells := env.cells) (cs := []) (mem_of_lookup hl)
        rw [hc] at this; exact this
    cases S with
    | cap h1 _ _ _ => exact capture h1
    | capK h1 _ _ => exact capture h1
    | glo h1 h2 h3 =>
      obtain ⟨v, V, r⟩ := R.con x d h3
      subst hs
      cases V with
      | loc hk2 _ _ _ => exact nomatch hk2.symm.trans h2
      | cel hk2 _ _ _ _ => exact hk2.elim (fun q => nomatch q.symm.trans h2) fun q => nomatch q.symm.trans h2
      | glo _ hg => exact ⟨v, .glo (by rw [Env.kindOf, e1, lookup_reS h1]; rfl) hg, Y.rep (R.ext x2).gz (x2.rep R.gz r)⟩
    | top h1 hg hr => exact ⟨_, .glo (by rw [Env.kindOf, e1, lookup_reS h1]; rfl) hg, hr _ _⟩
  sep := fun x y e f he hf h1 => by
    obtain ⟨rfl, _⟩ := locsOk_mem B.locs h1
    cases he
  one := fun x y e f he hf h1 => by
    obtain ⟨rfl, _⟩ := locsOk_mem B.locs h1
    cases he

/-- a list made by a block, and the block's namespace -/
inductive Made (w : Wd) (s : Shared) (G : Nat → Prop) (Q : List D → Prop) (D₀ C : Nat) (s' : Shared) : Prop
  | mk (G' : Nat → Prop) (m : Str → Option Value) (vs : List Value) (ds : List D) (q : Q ds) (hD : s.heap.get? D₀ = none) (nD : ¬ G' D₀) (hl : LstAt s'.heap D₀ vs) (r : RepL s'.heap G' vs ds) (x : Ext w s G s' G') (hn : s'.heap.Ns C m) (hC : s.heap.get? C = none) (nC : ¬ G' C) (oC : Own w C) (hne : C ≠ D₀)
abbrev kBlk (w : Wd) (n : Nat) (sc : Scope) (κc : Env2) (ρc : Rho) (elt : Expr) (gs : List Comprehension) (csc : Scope) (pos : Pos) (tgt : Expr) (Q : List D → Prop) (ds : List D) : Prop := CB w n (reS csc sc) κc ρc elt gs csc pos tgt ds Q
theorem comp_core {elt : Expr} {g : Comprehension} {gs : List Comprehension} {csc : Scope} {pos ipos : Pos} {κc : Env2} {ρc : Rho} {Qd : List D → Prop} (B : BlockOk csc sc κ ρ κc ρc)
    (h : IV w n sc κ ρ g.target g.iter (kBlk w n sc κc ρc elt (g :: gs) csc pos g.target Qd)) {A : Around} {use : Option (Value → Sem Unit)} {Q : Value → Shared → Prop}
    (hs : env.scope = sc) (b : Bud A n) (f : Frm A) (R : Rd w env G κ ρ s) (fin : ∀ s' C D₀, Made w s G Qd D₀ C s' → compPost (MM w) A NoE use Q (.ref D₀) C (.ok .next) s')
    (hs1 : ∀ env x, foldedSetIterable g.iter env x = pure x) : wpAny (MM w) A (comprehension (.ListComp elt (g :: gs) csc pos) csc env ipos (newList []) false (eval g.iter env) use) Q NoE s := by
  refine wpAny_comprehension_free rfl (hs1 env) (closureFor_of fun x hx => by
    obtain ⟨_, _, c, _, hc, _⟩ := B.free hs R hx
    exact ⟨c, hc⟩) B.kind (fun x hx hl => lookup_of_mem B.names (hl ▸ hx)) ?_
  refine wpAny_mono (h.run A env G s hs b f R) (fun x s1 h1 => wpAny_mono h1 (fun it s2 h2 => ?_) fun _ _ x => x.elim) fun _ _ x => x
  obtain ⟨G2, ds, J, Jg, P, hcb, it0, hP, x2, hJ, hJg⟩ := h2
  refine wpAny_newObj_type (hd := by size_fits) (wpAny_newFunctionEnv (fun x hx q => ?_) (fun _ h => absurd h List.not_mem_nil) (fun h₁ hns₁ hsb₁ => ?_) B.kind)
  · have h := List.all_eq_true.mp B.kinds _ hx
    rw [q] at h
    exact absurd h (by decide)
  dsimp only at hns₁ hsb₁ ⊢
  generalize hH2 : s2.heap.push { cls := .type "list", dict := none, data := .seq ([] : List Value).toArray } = H2 at hns₁ hsb₁ ⊢
  have hC : H2.objs.size = s2.heap.objs.size + 1 := by rw [← hH2, Heap.size_push]
  have hDC : s2.heap.objs.size ≠ H2.objs.size := hC ▸ (Nat.succ_ne_self _).symm
  have nC : s2.heap.get? H2.objs.size = none := Heap.get?_none_of_le (hC ▸ Nat.le_succ _)
  have nD : s2.heap.get? s2.heap.objs.size = none := size_none _
  have off {a : Nat} {o : Obj} (e : s2.heap.get? a = some o) : ¬ WD (One H2.objs.size) s2.heap.objs.size a := fun q => q.elim (fun q => nay nC (q ▸ e)) fun q => nay nD (q ▸ e)
  have old : ∀ b o, s2.heap.get? b = some o → h₁.get? b = some o := fun b o e => hsb₁.extBut b o (fun q => off e (.inl q)) (Heap.get?_push_of_some _ (hH2 ▸ Heap.get?_push_of_some _ e))
  have hlst : LstAt h₁ s2.heap.objs.size [] := ⟨_, 0, hsb₁.extBut _ _ hDC (Heap.get?_push_of_some _ (hH2 ▸ Heap.get?_push_size _ rfl)), rfl, ⟨rfl, rfl⟩, rfl⟩
  have Y : Ext w s2 G2 { s2 with heap := h₁, toks := s2.toks + ([] : List (Str × Value)).length } G2 := .heap x2.inv old _
  have z2 := (R.ext x2).gz
  generalize hcenv : ({ (newEnv csc H2.objs.size env.globals (closeL env.cells csc.names []) env.qual none .none (some env) builtinsNs) with scope := relabel csc env } : Env) = cenv
  have e1 : cenv.scope = reS csc sc := by rw [← hcenv, ← hs]; rfl
  have e2 : cenv.locals = H2.objs.size := by rw [← hcenv]; rfl
  have e3 : cenv.cells = closeL env.cells csc.names [] := by rw [← hcenv]; rfl
  have fo := blk_fo B hs R x2 Y nC hns₁ e1 e2 e3 (by rw [← hcenv]; rfl) (by rw [← hcenv]; rfl) old
  have oC : Own w H2.objs.size := x2.inv.own nC
  have ci : CI w cenv (One H2.objs.size) s2.heap.objs.size κc G2 ρc [] { s2 with heap := h₁, toks := s2.toks + ([] : List (Str × Value)).length } :=
    ⟨fo, ⟨[], hlst, .nil⟩, z2.nay nD, fun q => hDC q, x2.inv.own nD⟩
  refine codeAny_mono (hcb.run A cenv G2 (One H2.objs.size) s2.heap.objs.size _ it J Jg P e1 b f ci it0 (it0.stab G2 G2 J ds s2 _ hP (fun _ h => h) (fun b o _ e => old b o e) (fun b o _ e => old b o e) fun _ _ e => e)
    (fun a h => ⟨R.inv.own (hJ a h).1, (hJ a h).2.1.elim fun o q => ⟨o, old _ _ q⟩, (hJ a h).2.2, (hJ a h).2.1.elim fun o q => off q⟩) fun y d c hm hk hc q => ?_) fun r s3 h3 => ?_
  · rw [e3] at hc
    obtain ⟨h1, h2⟩ := close_mem B hs R (mem_of_lookup hc)
    obtain ⟨_, _, c2, v, hc2, _, ⟨o, e, _⟩, _⟩ := B.free hs R h1
    exact nay (hJ c q).1 (Option.some.inj (hc2.symm.trans h2) ▸ e)
  · obtain ⟨rfl, F3, ρ3, acc3, q3, C3, X3⟩ := h3
    obtain ⟨vs, hl3, r3⟩ := C3.lst
    obtain ⟨m, hn⟩ := C3.fo.ns
    rw [e2] at hn
    have nonew {a : Nat} (e : s2.heap.get? a = none) : s.heap.get? a = none := x2.nay e
    have offJ {b : Nat} {o : Obj} (e : s2.heap.get? b = some o) (h : ¬ J b) : ¬ WDJ (One H2.objs.size) s2.heap.objs.size J b := fun q => q.elim (off e) h
    have newJ {b : Nat} {o : Obj} (e : s.heap.get? b = some o) : ¬ J b := fun q => nay (hJ b q).1 e
    have X : Ext w s G s3 F3 :=
      ⟨fun b o e => (x2.there b o e).elim fun o' e' => X3.there b o' (offJ e' (newJ e)) (old _ _ e'), fun b o e _ nt => have e' := x2.keep b o e (fun h => h) nt; X3.keep b o (old _ _ e') (offJ e' (newJ e)) nt,
        fun b hb => (x2.tab b hb).trans ((Y.tab b hb).trans (X3.tab b hb)), fun i z e => X3.gens i z (fun q => absurd ((hJg i q).symm.trans e) (Option.some_ne_none z).symm) (x2.gens i z e), X3.os.trans x2.os, X3.inv, fun a h => X3.sub a (x2.sub a h),
        fun a h => (X3.new a h).elim (fun h => (x2.new a h).elim .inl fun h' => .inr ⟨h'.1, h'.2.elim fun o e => X3.there a o (offJ e fun q => (hJ a q).2.2 h) (old _ _ e)⟩) fun h => .inr ⟨nonew (by
          cases e : s2.heap.get? a with
          | none => rfl
          | some o => exact nay h.1 (old _ _ e)), h.2⟩⟩
    rw [show (newEnv csc H2.objs.size env.globals (closeL env.cells csc.names []) env.qual none .none (some env) builtinsNs).locals = H2.objs.size from rfl]
    exact fin s3 H2.objs.size s2.heap.objs.size ⟨F3, m, vs, acc3, q3, nonew nD, C3.nf, hl3, r3, X, hn, nonew nC, fun h => C3.fo.fw _ h rfl, oC, hDC.symm⟩
end
end Mine
end

noncomputable section
--# Lb18
namespace Mine
open PySem PySem.W PyProof.Rows PySem.Calls

section
variable {w : Wd} {n : Nat} {sc : Scope} {κ : Env2} {ρ : Rho} {env : Env} {F W G G' : Nat → Prop} {ad : Str → Nat} {s s' : Shared} {K : Fl → Rho → Prop}

theorem Inv.clear {C : Nat} (i : Inv w s) {m : Str → Option Value} (hn : s.heap.Ns C m) (oC : Own w C) {h' : Heap} (hs : Heap.SameBut C s.heap h') : Inv w { s with heap := h' } := by
  obtain ⟨o, es, ep, ho, hd⟩ := ns_data hn
  exact i.modify oC ho (fun vs q => nomatch hd.symm.trans q) hs s.toks
/-- the block's own namespace, cleared -/
theorem Ext.clear {C : Nat} (x : Ext w s G s' G') {m : Str → Option Value} (hn : s'.heap.Ns C m) (hC : s.heap.get? C = none) (nG : ¬ G' C) (oC : Own w C) {h' : Heap} (hs : Heap.SameBut C s'.heap h') : Ext w s G { s' with heap := h' } G' :=
  have hne : ∀ {b : Nat} {o : Obj}, s.heap.get? b = some o → b ≠ C := fun e q => Mine.nay hC (q ▸ e)
  ⟨fun b o e => (x.there b o e).elim fun o' e' => ⟨o', (hs.2 b (hne e)).trans e'⟩, fun b o e nw nt => (hs.2 b (hne e)).trans (x.keep b o e nw nt), fun b hb => (x.tab b hb).trans (.inl (hs.2 b fun q => oC.notTab (q ▸ hb))), x.gens, x.os, x.inv.clear hn oC hs, x.sub,
    fun a h => (x.new a h).elim .inl fun q => .inr ⟨q.1, q.2.elim fun o e => ⟨o, (hs.2 a fun q => nG (q ▸ h)).trans e⟩⟩⟩

/-- [e for .. in ..] -/
theorem EN.comp {elt : Expr} {g : Comprehension} {gs : List Comprehension} {csc : Scope} {pos : Pos} {κc : Env2} {ρc : Rho} {Qd : List D → Prop} (B : BlockOk csc sc κ ρ κc ρc) (ha : g.is_async = 0)
    (h : IV w n sc κ ρ g.target g.iter (kBlk w n sc κc ρc elt (g :: gs) csc pos g.target Qd))
    (hs1 : ∀ env x, foldedSetIterable g.iter env x = pure x := by intro _ _; rfl) : EN w n sc κ ρ (.ListComp elt (g :: gs) csc pos) Qd := by
  obtain ⟨tgt, iter, ifs, as⟩ := g
  obtain rfl : as = 0 := ha
  constructor
  intro A env G s hs b f R
  rw [eval_ListComp]
  refine comp_core (use := none) B h hs b f R (fun s' C D₀ q => ?_) hs1
  obtain ⟨G', m, vs, ds, q, hD, nD, hl, r, x, hn, hC, nC, oC, hne⟩ := q
  exact ⟨m, hn, fun h' hsb => ⟨G', D₀, vs, ds, rfl, q, hD, nD, hl.at fun o e => (hsb.2 _ hne.symm).trans e, r.mono (fun b o hb e => (hsb.2 b fun q => nC (q ▸ hb)).trans e) fun _ h => h, x.clear hn hC nC oC hsb⟩⟩

theorem Fo.grow (R : Fo w env F W ad κ ρ s) {a : Nat} (oa : Own w a) {o : Obj} (ho : s.heap.get? a = some o) (na : ¬ W a) : Fo w env (Plus F a) W ad κ ρ s :=
  R.move R.inv (fun _ _ _ e => e) (fun _ _ _ e => e) (fun _ _ _ _ _ _ _ _ e => e) (fun _ h => .inl h) (fun b h => h.elim (R.fz b) fun q => q ▸ ⟨oa, o, ho⟩) fun b h => h.elim (R.fw b) fun q => q ▸ na
/-- what lies at C is cleared -/
theorem Fo.clear (R : Fo w env F W ad κ ρ s) {C : Nat} {m : Str → Option Value} (hn : s.heap.Ns C m) (oC : Own w C) (nF : ¬ F C) (nW : ¬ W C) (off : CellOff κ env (One C)) {h' : Heap} (hsb : Heap.SameBut C s.heap h') : Fo w env F W ad κ ρ { s with heap := h' } :=
  have kF : KeepsOn F s.heap h' := fun b o hb e => (hsb.2 b fun q => nF (q ▸ hb)).trans e
  R.move (R.inv.clear hn oC hsb) kF (fun b o hb e => (hsb.2 b fun q => nW (q ▸ hb)).trans e) (fun y d c o hm hk hc _ e => (hsb.2 c (off y d c hm hk hc)).trans e) (fun _ h => h) (fun b h => ⟨(R.fz b h).1, (R.fz b h).2.elim fun o e => ⟨o, kF b o h e⟩⟩) R.fw
theorem Stp.clear {F' W' : Nat → Prop} (x : Stp F W s F' W' s') {C : Nat} (hC : s.heap.get? C = none) (oC : Own w C) (nF : ¬ F' C) (nW : ¬ W' C) {h' : Heap} (hsb : Heap.SameBut C s'.heap h') : Stp F W s F' W' { s' with heap := h' } :=
  have ne : ∀ {b : Nat} {o : Obj}, s.heap.get? b = some o → b ≠ C := fun e q => Mine.nay hC (q ▸ e)
  ⟨fun b o e => (x.there b o e).elim fun o' e' => ⟨o', (hsb.2 b (ne e)).trans e'⟩, fun b o e nw nt => (hsb.2 b (ne e)).trans (x.keep b o e nw nt), fun b hb => (x.tab b hb).trans (.inl (hsb.2 b fun q => oC.notTab (q ▸ hb))), x.gens, x.os, x.fsub,
    fun a h => (x.fnew a h).imp id (Or.imp id fun q => ⟨q.1, q.2.elim fun o e => ⟨o, (hsb.2 a fun z => nF (z ▸ h)).trans e⟩⟩), x.wnew, fun a h => (x.wz a h).elim fun o e => ⟨o, (hsb.2 a fun z => nW (z ▸ h)).trans e⟩⟩
theorem Stp.grow {F' W' : Nat → Prop} (x : Stp F W s F' W' s') {a : Nat} (ha : s.heap.get? a = none) {o : Obj} (ho : s'.heap.get? a = some o) : Stp F W s (Plus F' a) W' s' :=
  ⟨x.there, x.keep, x.tab, x.gens, x.os, fun a h => .inl (x.fsub a h), fun b h => h.elim (x.fnew b) fun q => .inr (.inr (q ▸ ⟨ha, o, ho⟩)), x.wnew, x.wz⟩
abbrev kAsgC (ρ : Rho) (x : Str) (K : Fl → Rho → Prop) (ds : List D) : Prop := Asg ρ x (.v (some (.list ds))) K

/-- x = [e for .. in ..] -/
theorem SV.asgComp {x : Str} {p cpos pos : Pos} {elt : Expr} {g : Comprehension} {gs : List Comprehension} {csc : Scope} {κc : Env2} {ρc : Rho} (B : BlockOk csc sc κ (dropMl ρ) κc ρc) (ha : g.is_async = 0)
    (h : IV w n sc κ (dropMl ρ) g.target g.iter (kBlk w n sc κc ρc elt (g :: gs) csc cpos g.target (kAsgC ρ x K)))
    (hs1 : ∀ env x, foldedSetIterable g.iter env x = pure x := by intro _ _; rfl) : SV w n sc κ ρ (.Assign [.Name x p] (.ListComp elt (g :: gs) csc cpos) pos) K := by
  have hsw : ∀ env, ∃ bb, swapsWith (.ListComp elt (g :: gs) csc cpos) (some (.Name x p)) pos.line env = pure bb := fun env => ⟨_, rfl⟩
  have hEV : EV w n sc κ (dropMl ρ) (.ListComp elt (g :: gs) csc cpos) (kAsg ρ x K) := EV.ofN (EN.comp B ha h hs1)
  obtain ⟨tgt, iter, ifs, as⟩ := g
  obtain rfl : as = 0 := ha
  constructor
  intro A env F W ad s hs b f R
  obtain ⟨bb, hbb⟩ := hsw env
  cases bb with
  | false => exact wpAny_Assign_Name (hEV.in0 hs b f R fun _ _ _ _ q r R1 y => q.store R1 y r) hbb
  | true =>
    rw [exec_Assign_Name_used _ _ _ _ hbb]
    refine wpAny_bind (wpAny_standAt ?_)
    show wpAny _ _ ((comprehension (.ListComp elt (⟨tgt, iter, ifs, 0⟩ :: gs) csc cpos) csc env _ (newList []) false (eval iter env) (some (assign (.Name x p) env)) >>= fun _ => pure ()) >>= fun _ => pure Flow.next) _ _ _
    refine wpAny_bind (wpAny_bind (wpAny_mono (Q := fun _ s' => PS w env κ F W s K .next s') ?_ (fun _ _ h => wpAny_pure (wpAny_pure h)) fun _ _ x => x))
    refine comp_core (use := some (assign (.Name x p) env)) (g := ⟨tgt, iter, ifs, 0⟩) B h hs b f R.rd0 (fun s' C D₀ q => ?_) hs1
    obtain ⟨G', m, vs, ds, ⟨ρ', P, k⟩, hD, nD, hl, r, x, hn, hC, nC, oC, hne⟩ := q
    obtain ⟨R1, y1⟩ := R.ext0 x
    obtain ⟨oD, hoD⟩ := hl.look
    have R1' := R1.grow (R.inv.own hD) hoD (R.nayW hD)
    refine PyProof.Rows.assign_Name (R1'.store P (.list (.inr rfl) hl.isList (r.mono (fun _ _ _ e => e) fun a h => .inl (R.clean x a h))) fun s2 R2 a => ?_)
    have hn2 : s2.heap.Ns C m := hn.at fun o e => a.keep _ o e (R.nayW hC) oC.notTab
    have nF : ¬ Plus (Bar G' W) D₀ C := fun h => h.elim (fun h => nC h.1) hne
    exact ⟨m, hn2, fun h' hsb => .on k (R2.clear hn2 oC nF (R.nayW hC) (R.cellNew fun _ e => e ▸ hC) hsb) (((y1.grow hD hoD).trans (a.stp R1'.wthere)).clear hC oC nF (R.nayW hC) hsb)⟩
end
end Mine
end

noncomputable section
--# Lb19
namespace Mine
open PySem PySem.W PyProof.Rows PySem.Calls

theorem bindL_ne {kindOf : Str → Option NameKind} {x : Str} {binds : List (Str × Value)} : ∀ {m : Str → Option Value}, x ∉ binds.map (·.1) → bindL kindOf binds m x = m x :=
  List.rec (motive := fun binds : List (Str × Value) => ∀ {m : Str → Option Value}, (x ∉ binds.map fun p => p.1) → bindL kindOf binds m x = m x) (fun _ => rfl) (fun p r ih m h => by
    obtain ⟨y, u⟩ := p
    rw [bindL, ih fun q => h (.tail _ q)]
    split
    · exact if_neg fun (q : x = y) => h (q ▸ .head _)
    · rfl) binds
theorem bindL_get {kindOf : Str → Option NameKind} {x : Str} {v : Value} {binds : List (Str × Value)} (hk : kindOf x = some .local) : ∀ {m : Str → Option Value}, (binds.map (·.1)).Nodup → (x, v) ∈ binds → bindL kindOf binds m x = some v :=
  List.rec (motive := fun binds : List (Str × Value) => ∀ {m : Str → Option Value}, (binds.map fun p => p.1).Nodup → (x, v) ∈ binds → bindL kindOf binds m x = some v) (fun _ h => absurd h List.not_mem_nil) (fun p r ih m hn hm => by
    obtain ⟨y, u⟩ := p
    have hn := List.nodup_cons.mp hn
    rcases List.mem_cons.mp hm with q | q
    · obtain ⟨rfl, rfl⟩ := Prod.mk.inj q
      rw [bindL, if_pos hk, bindL_ne hn.1]
      exact if_pos rfl
    · rw [bindL]; exact ih hn.2 q) binds
theorem bindC_ne {kindOf : Str → Option NameKind} {x : Str} {binds : List (Str × Value)} : ∀ {m : Str → Option Value}, x ∉ binds.map (·.1) → bindC kindOf binds m x = m x :=
  List.rec (motive := fun binds : List (Str × Value) => ∀ {m : Str → Option Value}, (x ∉ binds.map fun p => p.1) → bindC kindOf binds m x = m x) (fun _ => rfl) (fun p r ih m h => by
    obtain ⟨y, u⟩ := p
    rw [bindC, ih fun q => h (.tail _ q)]
    split
    · rfl
    · exact if_neg fun (q : x = y) => h (q ▸ .head _)) binds
theorem bindC_get {kindOf : Str → Option NameKind} {x : Str} {v : Value} {binds : List (Str × Value)} (hk : kindOf x ≠ some .local) : ∀ {m : Str → Option Value}, (binds.map (·.1)).Nodup → (x, v) ∈ binds → bindC kindOf binds m x = some v :=
  List.rec (motive := fun binds : List (Str × Value) => ∀ {m : Str → Option Value}, (binds.map fun p => p.1).Nodup → (x, v) ∈ binds → bindC kindOf binds m x = some v) (fun _ h => absurd h List.not_mem_nil) (fun p r ih m hn hm => by
    obtain ⟨y, u⟩ := p
    have hn := List.nodup_cons.mp hn
    rcases List.mem_cons.mp hm with q | q
    · obtain ⟨rfl, rfl⟩ := Prod.mk.inj q
      rw [bindC, if_neg hk, bindC_ne hn.1]
      exact if_pos rfl
    · rw [bindC]; exact ih hn.2 q) binds
theorem cellsFrom_keep {p : Str × Nat} {names : List (Str × NameKind)} : ∀ {k : Nat} {cs : List (Str × Nat)}, p ∈ cs → p ∈ cellsFrom k names cs :=
  List.rec (motive := fun names => ∀ {k : Nat} {cs : List (Str × Nat)}, p ∈ cs → p ∈ cellsFrom k names cs) (fun h => h) (fun q r ih k cs h => by
    obtain ⟨y, kd⟩ := q
    rw [cellsFrom]
    split
    · exact ih (.tail _ h)
    · exact ih h) names
theorem cellsFrom_has {x : Str} {names : List (Str × NameKind)} : ∀ {k : Nat} {cs : List (Str × Nat)}, (x, .cell) ∈ names → ∃ c, (x, c) ∈ cellsFrom k names cs :=
  List.rec (motive := fun names => ∀ {k : Nat} {cs : List (Str × Nat)}, (x, .cell) ∈ names → ∃ c, (x, c) ∈ cellsFrom k names cs) (fun h => absurd h List.not_mem_nil) (fun q r ih k cs h => by
    rcases List.mem_cons.mp h with q | q
    · obtain rfl := q
      exact ⟨k, (cellsFrom_keep (.head _) : _ ∈ cellsFrom (k + 1) r ((x, k) :: cs))⟩
    · obtain ⟨y, kd⟩ := ‹Str × NameKind›
      rw [cellsFrom]
      split
      · exact ih q
      · exact ih q) names
theorem lookup_some {x : Str} {c : Nat} {l : List (Str × Nat)} : (x, c) ∈ l → ∃ c', l.lookup x = some c' :=
  List.rec (motive := fun l => (x, c) ∈ l → ∃ c', l.lookup x = some c') (fun h => absurd h List.not_mem_nil) (fun p r ih h => by
    by_cases q : x = p.1
    · exact ⟨p.2, q ▸ lookup_cons_eq⟩
    · exact (ih ((List.mem_cons.mp h).resolve_left fun z => q (congrArg Prod.fst z))).imp fun _ e => (lookup_cons_ne q).trans e) l

/-- what a top name holds -/
noncomputable def GlobD (x : Str) (d : D) : Prop := ∃ v, GlobIs x v ∧ ∀ h G, Rep h G v d
noncomputable def initR : List Str → List D → Rho
  | x :: xs, d :: ds => (x, .v (some d)) :: initR xs ds
  | _, _ => []
noncomputable def noneR (l : List Str) : Rho := l.map fun x => (x, .v none)
noncomputable def ownKinds (sc : Scope) (l : List Str) : Bool := l.all fun x => (sc.names.lookup x == some .local || sc.names.lookup x == some .cell) && !(x == ("__classdict__" : Str))

/-- what a def must be -/
structure FnOk (a : Nat) (fd : FuncData) (body : List Stmt) (ps ls : List Str) (κ : Env2) : Prop where
  at' : ∀ P, ∃ oc od osl, (KK P).lookup a = some ⟨oc, od, .func fd, osl⟩
  body : fd.body = .stmts body
  clo : fd.closure = []
  glob : fd.globals = 3
  blt : fd.builtins = 0
  co : fd.scope.isCoroutine = false
  gen : fd.scope.isGenerator = false
  kind : fd.scope.kind = .function
  code : ∀ P, codeIn (KK P) fd.code fd.qualname = true
  bind : ∀ vals : List Value, vals.length = ps.length → bindArgs fd ⟨vals, []⟩ = pure (ps.zip vals)
  nodup : (ps ++ ls).Nodup
  kinds : ownKinds fd.scope (ps ++ ls) = true
  cons : ∀ x d, (x, d) ∈ κ → fd.scope.names.lookup x = some .globalImplicit ∧ GlobD x d

inductive InitAt (h : Heap) (G : Nat → Prop) (x : Str) (l : List (Str × Value)) : Ent → Prop
  | mk (d : D) (v : Value) (hm : (x, v) ∈ l) (r : Rep h G v d) : InitAt h G x l (.v (some d))
theorem initR_mem {h : Heap} {G : Nat → Prop} {x : Str} {e : Ent} {ps : List Str} : ∀ {ds : List D} {vs : List Value}, RepL h G vs ds → (x, e) ∈ initR ps ds → InitAt h G x (ps.zip vs) e :=
  List.rec (motive := fun ps => ∀ {ds : List D} {vs : List Value}, RepL h G vs ds → (x, e) ∈ initR ps ds → InitAt h G x (ps.zip vs) e) (fun _ h => absurd h List.not_mem_nil) (fun p ps ih ds vs r => by
    cases ds with
    | nil => exact fun h => absurd h List.not_mem_nil
    | cons d ds =>
      cases r using RepL.consE with | cons r rs =>
      intro h
      rcases List.mem_cons.mp h with q | h
      · obtain ⟨rfl, rfl⟩ := Prod.mk.inj q
        exact ⟨d, _, .head _, r⟩
      · obtain ⟨d, v, hm, r⟩ := ih rs h
        exact ⟨d, v, .tail _ hm, r⟩) ps
theorem initR_names {ps : List Str} : ∀ {ds : List D}, ps.length = ds.length → (initR ps ds).map (·.1) = ps :=
  List.rec (motive := fun ps => ∀ {ds : List D}, ps.length = ds.length → (initR ps ds).map (fun p => p.1) = ps) (fun _ => rfl) (fun p ps ih ds h => by
    cases ds with
    | nil => cases h
    | cons d ds => exact congrArg (List.cons p) (ih (Nat.succ.inj h))) ps
theorem noneR_names {l : List Str} : (noneR l).map (·.1) = l := List.map_map.trans (List.map_id' l)
theorem zip_names {α : Type} {ps : List Str} : ∀ {vs : List α}, vs.length = ps.length → (ps.zip vs).map (·.1) = ps :=
  List.rec (motive := fun ps : List Str => ∀ {vs : List α}, vs.length = ps.length → (ps.zip vs).map (fun p => p.1) = ps) (fun _ => rfl) (fun p ps ih vs h => by
    cases vs with
    | nil => cases h
    | cons d vs => exact congrArg (List.cons p) (ih (Nat.succ.inj h))) ps

section
variable {w : Wd} {n : Nat}

theorem FnOk.kind' {a : Nat} {fd : FuncData} {body : List Stmt} {ps ls : List Str} {κ : Env2} (O : FnOk a fd body ps ls κ) {x : Str} (hx : x ∈ ps ++ ls) : (fd.scope.names.lookup x = some .local ∨ fd.scope.names.lookup x = some .cell) ∧ (x == ("__classdict__" : Str)) = false := by
  have h := Bool.and_eq_true_iff.mp (List.all_eq_true.mp O.kinds x hx)
  exact ⟨(Bool.or_eq_true_iff.mp h.1).imp eq_of_beq eq_of_beq, by have h2 := h.2; rw [Bool.not_eq_true'] at h2; exact h2⟩
theorem cell_at {sc : Scope} {x : Str} {k : Nat} (h : sc.names.lookup x = some .cell) : ∃ c, (cellsFrom k sc.names []).lookup x = some c := (cellsFrom_has (cs := []) (mem_of_lookup h)).elim fun _ => lookup_some
/-- a frame that opens -/
structure Opened (w : Wd) (n : Nat) (A : Around) (fd : FuncData) (κ : Env2) (ρ : Rho) (G : Nat → Prop) (s : Shared) (env : Env) (W : Nat → Prop) (s₁ : Shared) : Prop where
  scope : env.scope = fd.scope
  code : env.code = fd.code
  qual : env.qual = fd.qualname ++ ".<locals>."
  bud : Bud (A.deeper env) n
  frm : Frm (A.deeper env)
  fo : Fo w env G W (fun _ => 0) κ ρ s₁
  ext : Ext w s G s₁ G
  fresh : ∀ c, W c → s.heap.get? c = none
  plain : ∀ c o vs, W c → s₁.heap.get? c = some o → o.data ≠ .fields vs
abbrev retOf (f : Flow) : Value := match f with | .ret v => v | _ => .none
theorem Bud.deep {A : Around} {env : Env} (b : Bud A (n + 1)) : Bud (A.deeper env) n := ⟨b.hnd, by have := b.dep; show A.depth + 1 + n + 103 ≤ _; omega, by have := b.uni; show A.units + 3 + 20 * n + 60 ≤ _; omega, b.frs.elim fun l hl => ⟨env :: l, congrArg (Option.map _) hl⟩⟩
theorem Bud.frm {A : Around} {env : Env} (b : Bud A (n + 1)) (h1 : env.scope.isGenerator = false) (h2 : env.scope.isCoroutine = false) (h3 : env.builtins = 0) (h4 : env.globals = 3) : Frm (A.deeper env) := b.frs.elim fun l hl => ⟨env, l, congrArg (Option.map _) hl, h1, h2, h3, h4⟩
theorem plain_mem {ls : List Str} {y : Str} {e : Ent} (h : (y, e) ∈ noneR ls) : y ∈ ls ∧ e = .v none := by
  obtain ⟨x, hx, q⟩ := List.mem_map.mp h
  obtain ⟨rfl, rfl⟩ := Prod.mk.inj q
  exact ⟨hx, rfl⟩
theorem fn_enterC {a : Nat} {fd : FuncData} {body : List Stmt} {ps ls : List Str} {κ : Env2} {args : List D} (O : FnOk a fd body ps ls κ) (hlen : ps.length = args.length) {A : Around} {G : Nat → Prop} {s : Shared} {vs : List Value} {RR : Result → Shared → Prop}
    (b : Bud A (n + 1)) (i : Inv w s) (z : Gz w G s) (ra : RepL s.heap G vs args)
    (h : ∀ env W s₁, Opened w n A fd κ (initR ps args ++ noneR ls) G s env W s₁ → wpAny (MM w) (A.deeper env) (execs body env) (fun f s' => RR (.ok (.ret (retOf f))) s') NoE s₁) : codeAny (MM w) A (.call (.ref a) ⟨vs, []⟩) RR s := by
  obtain ⟨oc, od, osl, ho⟩ := O.at' w.w.params
  have hvl : vs.length = ps.length := ra.length.trans hlen.symm
  have hzn : (ps.zip vs).map (·.1) = ps := zip_names hvl
  have hpn : ps.Nodup := (List.nodup_append.mp O.nodup).1
  refine codeAny_call_cells (fd := fd) (body := body) (binds := ps.zip vs) (by have := b.dep; omega) (i.K _ _ ho) rfl i.nolimit (codeRec_of i.K (O.code _)) O.body (O.bind vs hvl) O.clo (fun p hp => ?_) (fun s₁ x => ?_) O.co O.gen O.kind
  · have hy : p.1 ∈ ps := hzn ▸ List.mem_map.mpr ⟨_, hp, rfl⟩
    exact (O.kind' (List.mem_append_left _ hy)).1.imp id fun q => ⟨q, (cell_at (k := s.heap.objs.size + 1) q).elim fun c hc => hc ▸ rfl⟩
  · generalize hE : callEnvC fd s.heap.objs.size a = env at x
    have e1 : env.scope = fd.scope := by rw [← hE]; rfl
    have e2 : env.globals = 3 := by rw [← hE]; exact O.glob
    have e3 : env.builtins = 0 := by rw [← hE]; exact O.blt
    have e4 : env.cells = cellsFrom (s.heap.objs.size + 1) fd.scope.names [] := by rw [← hE]; rfl
    have hkk {y : Str} {k : Option NameKind} (h : fd.scope.names.lookup y = k) : env.kindOf y = k := by rw [Env.kindOf, e1]; exact h
    obtain ⟨h₁, tk, rfl⟩ := x.toInCall.same
    have keep := x.toInCall.keep
    have X : Ext w s G { s with heap := h₁, toks := tk } G := .heap i keep tk
    let W : Nat → Prop := fun c => c = env.locals ∨ ∃ y, env.cells.lookup y = some c
    obtain ⟨oL, eL, pL, gL, dL⟩ := ns_data x.toInCall.ns
    have cel {y : Str} {c : Nat} (hy : env.cells.lookup y = some c) := x.cell y c hy
    have wnone : ∀ c, W c → s.heap.get? c = none := fun c hc => Heap.get?_none_of_le (hc.elim (fun q => q ▸ x.toInCall.fresh) fun q => q.elim fun y hy => Nat.le_trans x.toInCall.fresh (Nat.le_of_lt (x.above y c (mem_of_lookup hy))))
    have wthere : ∀ c, W c → ∃ o, h₁.get? c = some o := fun c hc => hc.elim (fun q => q ▸ ⟨oL, gL⟩) fun q => q.elim fun y hy => (cel hy).elim fun o e => ⟨o, e.1⟩
    have cell_of {y : Str} (hk : fd.scope.names.lookup y = some .cell) : ∃ c, env.cells.lookup y = some c := by rw [e4]; exact cell_at hk
    have R : Fo w env G W (fun _ => 0) κ (initR ps args ++ noneR ls) { s with heap := h₁, toks := tk } := {
      inv := X.inv
      st := ⟨by rw [e1]; exact O.kind, e2, e3⟩
      fz := X.gz i z
      fw := fun c hc q => z.nay (wnone c q) hc
      wz := fun c hc => ⟨i.own (wnone c hc), wthere c hc⟩
      wl := .inl rfl
      ns := ⟨_, x.toInCall.ns⟩
      cells := x.apart
      nodup := by rw [List.map_append, initR_names hlen, noneR_names]; exact O.nodup
      ents := fun y e hm => by
        rcases List.mem_append.mp hm with hm | hm
        · obtain ⟨d, v, hz, r⟩ := initR_mem ra hm
          obtain ⟨hk, hcd⟩ := O.kind' (List.mem_append_left ls (hzn ▸ List.mem_map.mpr ⟨_, hz, rfl⟩ : y ∈ ps))
          refine ⟨v, ?_, X.rep z r⟩
          have hnd : ((ps.zip vs).map (·.1)).Nodup := hzn.symm ▸ hpn
          rcases hk with hk | hk
          · exact .loc (hkk hk) x.toInCall.ns (bindL_get (hkk hk) hnd hz)
          · obtain ⟨c, hc⟩ := cell_of hk
            have h := cel hc
            rw [bindC_get (by rw [hkk hk]; exact fun q => nomatch q) hnd hz] at h
            exact .cel (hkk hk) hcd hc (.inr ⟨y, hc⟩) h
        · obtain ⟨hy, rfl⟩ := plain_mem hm
          obtain ⟨hk, hcd⟩ := O.kind' (List.mem_append_right ps hy)
          rcases hk with hk | hk
          · exact DeclAt.loc (hkk hk)
          · obtain ⟨c, hc⟩ := cell_of hk
            exact DeclAt.cel (hkk hk) hcd hc (.inr ⟨y, hc⟩) (cel hc)
      cons := fun y d hm => (O.cons y d hm).2.elim fun v p => ⟨v, .glo (hkk (O.cons y d hm).1) p.1, p.2 _ _⟩
      sep := fun y y' e f he hf h1 => (List.mem_append.mp h1).elim (fun h1 => by cases initR_mem ra h1; cases he) fun h1 => by cases (plain_mem h1).2; cases he
      one := fun y y' e f he hf h1 => (List.mem_append.mp h1).elim (fun h1 => by cases initR_mem ra h1; cases he) fun h1 => by cases (plain_mem h1).2; cases he }
    exact wpAny_mono (h env W _ ⟨e1, by rw [← hE]; rfl, by rw [← hE]; rfl, b.deep, b.frm (by rw [e1]; exact O.gen) (by rw [e1]; exact O.co) e3 e2, R, X, wnone, fun c o vs hc e q => hc.elim (fun z => by
        have h := (congrArg (Option.map Obj.data) ((z ▸ e : h₁.get? env.locals = some o).symm.trans gL)).trans (congrArg some dL)
        exact nomatch (Option.some.inj h).symm.trans q) fun hc => hc.elim fun y hy => (cel hy).elim fun o' p => by
        have h := (congrArg (Option.map Obj.data) ((e : h₁.get? c = some o).symm.trans p.1))
        exact nomatch (Option.some.inj h).symm.trans q |>.symm.trans p.2⟩) (fun _ _ x => x) fun _ _ x => x.elim

/-- the frame left behind: what was new stays, what stood before is kept -/
theorem frame_left {env : Env} {κ : Env2} {ρ : Rho} {G W F' W' : Nat → Prop} {ad : Str → Nat} {s s₁ s' : Shared} (X : Ext w s G s₁ G) (R : Fo w env F' W' ad κ ρ s') (y : Stp G W s₁ F' W' s') (wnone : ∀ c, W c → s.heap.get? c = none) (wthere : ∀ c, W c → ∃ o, s₁.heap.get? c = some o) : Ext w s G s' F' := by
  exact ⟨fun c o e => (X.there c o e).elim fun o' e' => y.there c o' e', fun c o e nw nt => y.keep c o (X.keep c o e nw nt) (fun q => nay (wnone c q) e) nt, fun c hc => (X.tab c hc).trans (y.tab c hc), fun j g e => y.gens j g (X.gens j g e), y.os.trans X.os, R.inv, fun a h => y.fsub a (X.sub a h),
    fun c hc => (y.fnew c hc).elim .inl fun q => .inr (q.elim (fun q => ⟨wnone c q, (wthere c q).elim fun o e => y.there c o e⟩) fun q => ⟨X.nay q.1, q.2⟩)⟩

/-- the post of a def's body -/
noncomputable def kFn (Q : D → Prop) : Fl → Rho → Prop
  | .next, _ => Q .none
  | .ret d, _ => Q d
  | .brk, _ => False
  | .cont, _ => False
theorem Opened.post {A : Around} {fd : FuncData} {κ : Env2} {ρ : Rho} {G W : Nat → Prop} {s s₁ s' : Shared} {env : Env} {Q : D → Prop} {f : Flow} (o : Opened w n A fd κ ρ G s env W s₁) (p : PS w env κ G W s₁ (kFn Q) f s') : Post w s G Q (retOf f) s' := by
  obtain ⟨F', W', ad', ρ', g, k, r, R', y⟩ := p
  have X' := frame_left o.ext R' y o.fresh o.fo.wthere
  refine r.go (K := (kFn Q · ρ')) k (fun k => ?_) (fun k => k.elim) (fun k => k.elim) fun _ _ r k => ?_
  · exact ⟨F', _, k, .none, X'⟩
  · exact ⟨F', _, k, r, X'⟩
theorem Opened.fin {A : Around} {fd : FuncData} {body : List Stmt} {κ : Env2} {ρ : Rho} {G W : Nat → Prop} {s s₁ : Shared} {env : Env} {Q : D → Prop} (o : Opened w n A fd κ ρ G s env W s₁) (h : SVs w n fd.scope κ ρ body (kFn Q)) :
    wpAny (MM w) (A.deeper env) (execs body env) (fun f s' => Post w s G Q (retOf f) s') NoE s₁ :=
  wpAny_mono (h.run (A.deeper env) env G W _ _ o.scope o.bud o.frm o.fo) (fun _ _ p => o.post p) fun _ _ x => x
theorem CallOk.fn {a : Nat} {fd : FuncData} {body : List Stmt} {ps ls : List Str} {κ : Env2} {args : List D} {Q : D → Prop} (O : FnOk a fd body ps ls κ) (hlen : ps.length = args.length)
    (h : SVs w n fd.scope κ (initR ps args ++ noneR ls) body (kFn Q)) : CallOk w (n + 1) (.fn a) args Q := by
  constructor
  intro A G s vf vs b f i z rf ra
  cases rf using Rep.fnE with | fn =>
  exact wpAny_call (fn_enterC O hlen b i z ra fun env W s₁ o => o.fin h)
end
end Mine
end

noncomputable section
--# Lb20
namespace Mine
open PySem PySem.W PyProof.Rows PySem.Calls

theorem look_ns {o : Obj} {es : Array DictEntry} {ep : Nat} {m : Str → Option Value} {x : Str} (hd : o.data = .dict es ep) (hk : StrKeys es) (hm : ∀ x, nsFind es x = m x) : lookIn x o = some (m x) := by
  unfold lookIn
  rw [hd, ← hm x]
  unfold nsFind findBy
  dsimp only
  rw [← Array.find?_toList]
  cases e : es.toList.find? (·.key.isStr x) with
  | some q => rfl
  | none =>
    have : es.toList.any (·.refKey) = false := by
      rw [List.any_eq_false]
      intro q hq
      obtain ⟨y, t, h⟩ := hk q (by simpa using hq)
      simp [DictEntry.refKey, h]
    simp [this]
theorem ns_open {h : Heap} {a : Nat} {m : Str → Option Value} (n : h.Ns a m) : ∃ o, h.get? a = some o ∧ ∀ x, lookIn x o = some (m x) := let ⟨o, es, ep, e, hd, hk, hm⟩ := n; ⟨o, e, fun x => look_ns hd hk hm⟩
theorem inst_at {h : Heap} {a da : Nat} {o : Obj} (ha : h.get? a = some (instObj 146 da)) (hd : h.get? da = some o) : InstAt h a (instObj 146 da) 146 (some o) := ⟨ha, rfl, rfl, hd⟩
theorem RepF.names {h : Heap} {G : Nat → Prop} {m : Str → Option Value} {fs : List (Str × D)} : RepF h G m fs → ∀ x v, m x = some v → x ∈ instNames :=
  List.rec (motive := fun fs => RepF h G m fs → ∀ x v, m x = some v → x ∈ instNames) (fun r => r.nilE) (fun _ _ ih r => r.consE fun _ _ rs => ih rs) fs

theorem kk_ga : ∀ P, findIn (KK P) (.ref 146) "__getattribute__" = some (some (.builtin "object.__getattribute__")) := fun P => by kernel_rfl
theorem kk_gt : ∀ P, findIn (KK P) (.ref 146) "__getattr__" = some none := fun P => by kernel_rfl
theorem kk_hasDict : ∀ P, hasDictIn (KK P) 146 = true := fun P => by kernel_rfl
theorem rep_handed {h : Heap} {G : Nat → Prop} {v : Value} {d : D} (r : Rep h G v d) (hb : ∀ id, d ≠ .bi id) : handedIn v = true := by
  exact Rep.casesOn (motive_1 := fun v d _ => (∀ id, d ≠ .bi id) → handedIn v = true) r (fun _ => rfl) (fun _ _ => rfl) (fun _ _ _ => rfl) (fun _ _ _ => rfl) (fun _ _ => rfl) (fun _ _ => rfl) (fun _ hb => absurd rfl (hb _)) (fun _ _ => rfl) (fun _ _ _ _ => rfl) (fun _ _ _ _ => rfl) (fun _ _ _ _ _ _ => rfl) hb

section
variable {w : Wd} {n : Nat} {sc : Scope} {κ : Env2} {ρ : Rho}

/-- o.f, a field -/
inductive kFld (f : Str) (Q : D → Prop) (d : D) : Prop
  | mk (fs : List (Str × D)) (d' : D) (e : d = .inst fs) (hm : (f, d') ∈ fs) (hb : ∀ id, d' ≠ .bi id) (q : Q d')
theorem EV.fld {value : Expr} {f : Str} {pos : Pos} {Q : D → Prop} (h : EV w n sc κ ρ value (kFld f Q))
    (hf : ∀ P, findIn (KK P) (.ref 146) f = some none)
    (he : ∀ env, eval (.Attribute value f pos) env = (do
      let o ← eval value env
      standAt pos.atName
      let r ← holding [o] (getAttr o f true)
      letTemporaryGo value o r
      pure r) := by intro _; rfl) : EV w n sc κ ρ (.Attribute value f pos) Q := by
  constructor
  intro A env G s hs b fr R
  refine Attribute_any_ (h.then hs b fr R fun v s1 G1 d q r x1 R1 => ?_) (he env)
  obtain ⟨fs, d', rfl, hm, hb, q⟩ := q
  cases r using Rep.instE with | inst ga gd ho hn rf =>
    obtain ⟨v', hv, rv⟩ := rf.get hm
    obtain ⟨od, hod, hl⟩ := ns_open hn
    exact get_value (K := KK w.w.params) x1.inv.K (inst_at ho hod) (kk_ga _) (findObj_own (kk_hasDict _) (hf _) rfl (by rw [hl, hv])) (rep_handed rv hb) (Post.back x1 (Post.now x1.inv rv q _))

/-- C.f, of the class -/
theorem EV.cls {x : Str} {p pos : Pos} {f : Str} {d : D} {v : Value} {Q : D → Prop} (hm : (x, D.fn 146) ∈ κ) (hr : ∀ P, readsIn (KK P) 146 (.type "type") = true) (hf : ∀ P, findCls (KK P) (.ref 146) (.type "type") f = some (.val v)) (hh : handedIn v = true) (rv : ∀ h G, Rep h G v d) (q : Q d)
    (he : ∀ env, eval (.Attribute (.Name x p) f pos) env = (do
      let o ← eval (.Name x p) env
      standAt pos.atName
      let r ← holding [o] (getAttr o f true)
      letTemporaryGo (.Name x p) o r
      pure r) := by intro _; rfl) (hd : (x == ("__debug__" : Str)) = false := by decide +kernel) : EV w n sc κ ρ (.Attribute (.Name x p) f pos) Q := by
  constructor
  intro A env G s hs b fr R
  refine Attribute_any_ ((EV.con (Q := (· = .fn 146)) hm rfl hd).then hs b fr R fun v0 s1 G1 d q r x1 R1 => ?_) (he env)
  subst q
  cases r using Rep.fnE with | fn =>
  exact cls_value (K := KK w.w.params) x1.inv.K (hr _) (hf _) hh (Post.back x1 (Post.now x1.inv (rv _ _) q _))

/-- a method of the class -/
theorem meth_inst {fs : List (Str × D)} {name : Str} {a : Nat} (hf : ∀ P, findIn (KK P) (.ref 146) name = some (some (.ref a))) (ht : ∀ P, typeIn (KK P) (.ref a) = some (.type "function")) (hn : name ∉ instNames) : MethIs w (.inst fs) name (.fn a) := ⟨fun A G s v pl Q E i z r q => by
  cases r using Rep.instE with | @inst x da m ga gd ho hns rf =>
    obtain ⟨od, hod, hl⟩ := ns_open hns
    refine method_fn (K := KK w.w.params) i.K (inst_at ho hod) (kk_ga _) (kk_gt _) (hf _) (ht _) ?_ (q _ (.fn _))
    show (lookIn name od).map (·.isSome) = some false
    rw [hl]
    cases e : m name with
    | none => rfl
    | some v => exact absurd (rf.names _ _ e) hn⟩
end
end Mine
end

noncomputable section
--# Lb21
namespace Mine
open PySem PySem.W PyProof.Rows PySem.Calls

theorem RepF.set {h : Heap} {G : Nat → Prop} {f : Str} {v : Value} (hf : f ∈ instNames) {m : Str → Option Value} {fs : List (Str × D)} : RepF h G m fs → (∀ p ∈ fs, p.1 ≠ f) → RepF h G (fun y => if y = f then some v else m y) fs :=
  List.rec (motive := fun fs => RepF h G m fs → (∀ p ∈ fs, p.1 ≠ f) → RepF h G (fun y => if y = f then some v else m y) fs) (fun r _ => .nil fun x u e => by
    by_cases hx : x = f
    · exact hx ▸ hf
    · rw [if_neg hx] at e; exact r.nilE x u e) (fun _ _ ih r hn => r.consE fun e r rs => .cons ((if_neg (hn _ (.head _))).trans e) r (ih rs fun p hp => hn p (.tail _ hp))) fs
theorem RepF.put {h : Heap} {G : Nat → Prop} {f : Str} {v : Value} {d : D} {m : Str → Option Value} {fs : List (Str × D)} (hf : f ∈ instNames) (r : RepF h G m fs) (hn : ∀ p ∈ fs, p.1 ≠ f) (rv : Rep h G v d) : RepF h G (fun y => if y = f then some v else m y) ((f, d) :: fs) :=
  .cons (if_pos rfl) rv (r.set hf hn)

/-- a Whitespace's namespace is small -/
theorem ns1_small {h : Heap} {a : Nat} {m : Str → Option Value} (hn : h.Ns1 a m) (hs : ∀ x v, m x = some v → x ∈ instNames) : ∃ o, h.get? a = some o ∧ o.data.pastItsLine = none := by
  obtain ⟨o, es, ep, ho, hd, hk, hu, hm⟩ := hn
  refine ⟨o, ho, ?_⟩
  rw [hd]
  refine pastItsLine_dict ?_
  have key : ∀ e ∈ es.toList, ∃ n t, e.key = .str n t ∧ n ∈ instNames := fun e he => by
    obtain ⟨n, t, h⟩ := hk e (Array.mem_toList_iff.mp he)
    refine ⟨n, t, h, ?_⟩
    have hf : ∃ v, nsFind es n = some v := by
      unfold nsFind findBy
      rw [← Array.find?_toList]
      cases q : es.toList.find? (fun e => e.key.isStr n) with
      | some x => exact ⟨_, rfl⟩
      | none =>
        have := List.find?_eq_none.mp q e he
        rw [h] at this
        exact absurd (by simp [Value.isStr]) this
    obtain ⟨v, hv⟩ := hf
    exact hs n v (by rw [← hm n]; exact hv)
  let nm : DictEntry → Str := fun e => match e.key with | .str n _ => n | _ => ""
  have hnd : (es.toList.map nm).Nodup := by
    refine List.pairwise_map.mpr (List.Pairwise.imp_of_mem (fun {a b} ha hb q e => ?_) hu)
    obtain ⟨x, t, h1, _⟩ := key a ha
    obtain ⟨y, u, h2, _⟩ := key b hb
    simp only [nm, h1, h2] at e
    subst e
    exact q x (by rw [h1]; simp [Value.isStr]) (by rw [h2]; simp [Value.isStr])
  have hsub : es.toList.map nm ⊆ instNames := fun x hx => by
    obtain ⟨e, he, rfl⟩ := List.mem_map.mp hx
    obtain ⟨n, t, h, hn⟩ := key e he
    show nm e ∈ instNames
    simp only [nm, h]; exact hn
  have := hnd.length_le_of_subset hsub
  rw [List.length_map] at this
  have h5 : instNames.length = 5 := rfl
  have : es.size ≤ 5 := by rw [← Array.length_toList]; omega
  exact Nat.le_trans this (by decide)
theorem kk_setattr : ∀ P, findIn (KK P) (.ref 146) "__setattr__" = some (some (.builtin "object.__setattr__")) := fun P => by kernel_rfl
theorem kk_plainOver : ∀ P, plainOver (KK P) 146 = true := fun P => by kernel_rfl

section
variable {w : Wd} {n : Nat} {sc : Scope} {κ : Env2} {ρ : Rho} {K : Fl → Rho → Prop} {env : Env} {F W G' : Nat → Prop} {ad : Str → Nat} {s s' : Shared}

/-- the object's own namespace, changed -/
theorem Fo.touchOb (R : Fo w env F W ad κ ρ s) {x : Str} {a da : Nat} {fs fs' : List (Str × D)} {ρ' : Rho} (hx : (x, Ent.ob a fs) ∈ ρ) (P : Put ρ x (.ob a fs') ρ') (wd : W da) (hne : da ≠ env.locals) (ho : s.heap.get? a = some (instObj 146 da)) {m m' : Str → Option Value} (hn1 : s.heap.Ns1 da m)
    {h' : Heap} (hs : Heap.SameBut da s.heap h') (hn1' : h'.Ns1 da m') (r' : RepF s.heap F m' fs') (t : Nat) : Fo w env F W ad κ ρ' { s with heap := h', toks := t } ∧ Adv w W s F { s with heap := h', toks := t } F := by
  obtain ⟨S₀, wa, _⟩ := R.ents x _ hx
  have hn := hn1.ns
  obtain ⟨o, es, ep, hod, hd⟩ := ns_data hn
  obtain ⟨o', es', ep', hod', hd'⟩ := ns_data hn1'.ns
  obtain ⟨mL, hL⟩ := R.ns
  have hS : ∀ {y : Str} {v : Value}, SlotAt env s.heap W y v → SlotAt env h' W y v := fun S => S.but hs hne.symm fun _ _ _ hv => cell_ne_ns hn hv
  exact R.putBut P wd hod (fun vs q => nomatch hd.symm.trans q) hs hod' t ⟨mL, hL.at fun o e => (hs.2 _ hne.symm).trans e⟩
    ⟨hS S₀, wa, da, m', wd, hne, (hs.2 _ (inst_ne_ns hn ho)).trans ho, hn1', r'.mono (R.keepF wd hs) fun _ h => h⟩ (fun _ _ _ S => hS S) (fun _ _ D => D.but hs fun _ _ _ hv => cell_ne_ns hn hv)
    (fun _ _ _ _ _ _ l => lst_ne_ns hn l) (fun y e _ _ _ hney hm he _ _ _ => absurd (R.one y x _ _ he rfl hm hx) hney) (fun q => absurd q Bool.noConfusion) (fun _ => ⟨_, rfl, hx⟩)

/-- self.f = e -/
abbrev kAttr (ρ : Rho) (x f : Str) (a : Nat) (fs : List (Str × D)) (K : Fl → Rho → Prop) (d : D) : Prop := Asg ρ x (.ob a ((f, d) :: fs)) K
theorem SV.setAttr {x f : Str} {p tp pos : Pos} {e : Expr} {a : Nat} {fs : List (Str × D)} (hx : (x, Ent.ob a fs) ∈ ρ) (hf : f ∈ instNames) (hfs : ∀ q ∈ fs, q.1 ≠ f) (ht : ∀ P, takerIn (KK P) 146 f = some none)
    (h : EV w n sc κ (dropMl ρ) e (kAttr ρ x f a fs K))
    (hw : ∀ env, swapsWith e (some (.Attribute (.Name x p) f tp)) pos.line env = pure false := by intro _; rfl)
    (hd : (x == ("__debug__" : Str)) = false := by decide +kernel) : SV w n sc κ ρ (.Assign [.Attribute (.Name x p) f tp] e pos) K := by
  constructor
  intro A env F W ad s hs b fr R
  refine plainObj_wpAny_Assign_Attribute (h.in0 hs b fr R fun v s1 G1 d q rv R1 y1 => ?_) (hw env)
  obtain ⟨ρ', P, k⟩ := q
  obtain ⟨S₀, wa, da, m, wd, hne, ho, hn1, rf⟩ := R1.ents x _ hx
  have hn := hn1.ns
  refine wpAny_Name (wp_loadName R1.inv R1.st (S₀.var (R1.wz _ R1.wl).1 fun a h => (R1.wz a h).1) ?_) hd
  obtain ⟨od, hod, _⟩ := ns_open hn
  have I : InstAt s1.heap a (instObj 146 da) 146 (some od) := inst_at ho hod
  refine set_plain (K := KK w.w.params) R1.inv.K I (kk_setattr _) (osa_open (K := KK w.w.params) (s := { s1 with toks := s1.toks + 1 }) R1.inv.K I (kk_plainOver _) (ht _) fun bb => ?_)
  obtain ⟨cd, hc, hd'⟩ := any_some (kk_hasDict w.w.params)
  refine wpAny_bind (wpAny_pure (wpAny_bind (wpAny_bind (wpAny_loadPart ho (wpAny_bind ((looks_clsIn (R1.inv.toks (s1.toks + 1)).K hc).here ?_))))))
  rw [hd']
  refine wpAny_pure (a := some da) (wpAny_bind (wpAny_pure (wpAny_bind ?_)))
  have rf' := rf.put hf hfs rv
  refine wpAny_nsSet1 hn1 fun h' hn' hsb => ?_
  obtain ⟨o', ho', hsm⟩ := ns1_small hn' rf'.names
  refine wpAny_bind (wpAny_lookBehind ho' hsm (wpAny_pure ?_))
  obtain ⟨R2, av⟩ := R1.touchOb hx P wd hne ho hn1 hsb hn' rf' (s1.toks + 1 + 1)
  exact .on k R2 (y1.trans (av.stp R1.wthere))

/-- a parameter that holds a fresh object is from now on the frame's own -/
theorem Fo.toOb (R : Fo w env F W ad κ ρ s) {x : Str} {a da : Nat} {ρ' : Rho} (hx : (x, Ent.v (some (.fn a))) ∈ ρ) (P : Put ρ x (.ob a []) ρ') (oa : Own w a) (oda : Own w da) (fa : ¬ F a) (fda : ¬ F da) (na : ¬ W a) (nda : ¬ W da)
    (ho : s.heap.get? a = some (instObj 146 da)) {m : Str → Option Value} (hn1 : s.heap.Ns1 da m) (hm0 : ∀ y, m y = none) (hob : ∀ y e, e.isOb = true → (y, e) ∉ ρ) : Fo w env F (Plus (Plus W a) da) ad κ ρ' s := by
  have g : ∀ b, W b → Plus (Plus W a) da b := fun b h => .inl (.inl h)
  have hn := hn1.ns
  have hneL : da ≠ env.locals := fun q => nda (q ▸ R.wl)
  refine R.put P R.inv R.fz (fun b h q => q.elim (fun q => q.elim (R.fw b h) fun q => fa (q ▸ h)) fun q => fda (q ▸ h)) (fun b h => h.elim (fun h => h.elim (R.wz b) fun q => q ▸ ⟨oa, _, ho⟩) fun q => q ▸ ⟨oda, (ns_data hn).elim fun o h => h.elim fun _ h => h.elim fun _ h => ⟨o, h.1⟩⟩) (g _ R.wl) R.ns ?_
    (fun _ _ _ e => e) (fun _ h => h) (fun _ _ => rfl) (fun _ _ _ S => S.mono g) (fun _ _ D => D.mono g) (fun _ _ _ _ _ _ wa l => ⟨g _ wa, l⟩) (fun y e _ hm he => absurd hm (hob y e he))
    (fun c v oc nc hv => ⟨fun q => q.elim (fun q => q.elim nc fun q => inst_ne_cell hv ho q.symm) (cell_ne_ns hn hv), hv⟩) (R.sepP P fun q => absurd q Bool.noConfusion) fun y z e f he hf h1 h2 => ?_
  · obtain ⟨v, S, r⟩ := R.ents x _ hx
    cases r using Rep.fnE with | fn =>
    exact ⟨S.mono g, .inl (.inr rfl), da, m, .inr rfl, hneL, ho, hn1, .nil fun z v e => absurd ((hm0 z).symm.trans e) (Option.some_ne_none v).symm⟩
  · have only {y : Str} {e : Ent} (he : e.isOb = true) (h : (y, e) ∈ ρ') : y = x := (P.other R.nodup h).elim (fun h => h.1) fun h => absurd h.2 (hob _ _ he)
    rw [only he h1, only hf h2]

theorem initR_v {x : Str} {e : Ent} {ps : List Str} : ∀ {ds : List D}, (x, e) ∈ initR ps ds → ∃ d, e = .v (some d) :=
  List.rec (motive := fun ps => ∀ {ds : List D}, (x, e) ∈ initR ps ds → ∃ d, e = .v (some d)) (fun h => absurd h List.not_mem_nil) (fun p ps ih ds h => by
    cases ds with
    | nil => exact absurd h List.not_mem_nil
    | cons d ds => exact (List.mem_cons.mp h).elim (fun q => ⟨d, congrArg Prod.snd q⟩) ih) ps

/-- the post of an __init__ -/
inductive Filled (self : Str) (a : Nat) (Q : D → Prop) (ρ : Rho) : Prop
  | mk (fs : List (Str × D)) (hm : (self, Ent.ob a fs) ∈ ρ) (q : Q (.inst fs))
noncomputable def kMake (self : Str) (a : Nat) (Q : D → Prop) (f : Fl) (ρ : Rho) : Prop := (f = .next ∨ f = .ret .none) ∧ Filled self a Q ρ
/-- Whitespace(..): its __init__ run on a fresh object -/
theorem CallOk.make {fd : FuncData} {body : List Stmt} {ps ls : List Str} {κ : Env2} {self : Str} {args : List D} {Q : D → Prop} (O : FnOk 101 fd body (self :: ps) ls κ) (hlen : ps.length = args.length)
    (h : ∀ a, SVs w n fd.scope κ ((self, .ob a []) :: (initR ps args ++ noneR ls)) body (kMake self a Q))
    (hm : ∀ P, makesIn (KK P) 146 = true) (hi : ∀ P, findIn (KK P) (.ref 146) "__init__" = some (some (.ref 101))) (ht : ∀ P, typeIn (KK P) (.ref 101) = some (.type "function")) : CallOk w (n + 2) (.fn 146) args Q := by
  constructor
  intro A G s vf vs b f i z rf ra
  cases rf using Rep.fnE with | fn =>
  refine wpAny_call ?_
  have i0 := i
  have hK := i.K
  obtain ⟨hh, g, dd, t, os⟩ := s
  refine make_core (makes_of hK (hm _)) (looks_findIn hK (hi _)) (fun self => bind_fn hK self (ht _)) (.inl rfl) ?_
  generalize hs1 : (⟨(hh.push emptyDict).push (instObj 146 hh.objs.size), g, dd, t, os⟩ : Shared) = s1
  have X : Ext w ⟨hh, g, dd, t, os⟩ G s1 G := by rw [← hs1]; exact Ext.heap (s := ⟨hh, g, dd, t, os⟩) i (fun b o e => Heap.get?_push_of_some _ (Heap.get?_push_of_some _ e)) t
  have ho : s1.heap.get? (hh.objs.size + 1) = some (instObj 146 hh.objs.size) := by
    rw [← hs1, ← Heap.size_push hh emptyDict]
    exact Heap.get?_push_size (hh.push emptyDict) (o := instObj 146 hh.objs.size) rfl
  have hn : s1.heap.Ns hh.objs.size (fun _ => none) := by
    rw [← hs1]
    exact (Heap.Ns.new hh (.type "dict")).keeps fun b o e => Heap.get?_push_of_some _ e
  have nx : hh.get? (hh.objs.size + 1) = none := Heap.get?_none_of_le (Nat.le_succ _)
  have ndx : hh.get? hh.objs.size = none := size_none _
  have B : Bud (A.under (.builtin "type.__call__" ⟨.ref 146 :: vs, []⟩)) (n + 1) := ⟨b.hnd, by have := b.dep; show A.depth + 1 + (n + 1) + 103 ≤ _; omega, by have := b.uni; show A.units + 1 + 20 * (n + 1) + 60 ≤ _; omega, b.frs⟩
  refine fn_enterC (args := .fn (hh.objs.size + 1) :: args) O (congrArg Nat.succ hlen) B X.inv (X.gz i z) (.cons (.fn _) (X.repL z ra)) fun env W s₂ o => ?_
  have wne {c : Nat} {u : Obj} (e : s1.heap.get? c = some u) (q : W c) : False := nay (o.fresh c q) e
  have ho2 : s₂.heap.get? (hh.objs.size + 1) = some (instObj 146 hh.objs.size) := o.ext.keepOwn (i0.own nx) ho
  have hn2 : s₂.heap.Ns hh.objs.size (fun _ => none) := hn.at fun u e => o.ext.keepOwn (i0.own ndx) e
  obtain ⟨odx, _, _, hodx, _⟩ := ns_data hn
  have R2 := o.fo.toOb (x := self) (a := hh.objs.size + 1) (da := hh.objs.size) (ρ' := (self, .ob (hh.objs.size + 1) []) :: (initR ps args ++ noneR ls)) (.head _) .hit (i0.own nx) (i0.own ndx) (z.nay nx) (z.nay ndx) (wne ho) (wne hodx) ho2 (.of_empty hn2) (fun _ => rfl)
    (fun y e he hm => ((List.mem_append (s := initR (self :: ps) (.fn (hh.objs.size + 1) :: args))).mp hm).elim (fun q => by obtain ⟨_, rfl⟩ := initR_v q; cases he) fun q => by cases (plain_mem q).2; cases he)
  refine wpAny_mono ((h (hh.objs.size + 1)).run _ env G _ _ s₂ o.scope o.bud o.frm R2) (fun fl s' p => ?_) fun _ _ x => x
  obtain ⟨F', W', ad', ρ', gg, ⟨hg, fs, hmm, hq⟩, r, R', y⟩ := p
  have wn : ∀ c, Plus (Plus W (hh.objs.size + 1)) hh.objs.size c → hh.get? c = none := fun c q => q.elim (fun q => q.elim (fun q => X.nay (o.fresh c q)) fun q => q ▸ nx) fun q => q ▸ ndx
  have X' : Ext w ⟨hh, g, dd, t, os⟩ G s' F' := frame_left (s := ⟨hh, g, dd, t, os⟩) (X.trans o.ext) R' y wn R2.wthere
  obtain ⟨S, wa, da, m, wd, hne, ho', hn', rf⟩ := R'.ents self _ hmm
  refine ⟨?_, fun c => F' c ∨ W' c, _, hq, .inst (.inr wa) (.inr wd) ho' hn'.ns (rf.mono (fun _ _ _ e => e) fun _ h => .inl h), X'.there, X'.keep, X'.tab, X'.gens, X'.os, X'.inv, fun c h => .inl (X'.sub c h),
    fun c h => h.elim (X'.new c) fun h => .inr ⟨(y.wnew c h).elim (wn c) (X.trans o.ext).nay, R'.wthere c h⟩⟩
  refine r.go (K := fun f => f = .next ∨ f = .ret .none) hg (fun _ => rfl) (fun q => nomatch q) (fun q => nomatch q) fun v d r q => ?_
  obtain rfl : d = .none := q.elim (fun q => nomatch q) fun q => Fl.ret.inj q
  exact r.noneE rfl
end
end Mine
end

noncomputable section
--# Lb22
namespace Mine
open PySem PySem.W PyProof.Rows PySem.Calls

/-- what a def within a def must be -/
structure CloOk (fd : FuncData) (body : List Stmt) (ps ls : List Str) : Prop where
  body : fd.body = .stmts body
  glob : fd.globals = 3
  blt : fd.builtins = 0
  co : fd.scope.isCoroutine = false
  gen : fd.scope.isGenerator = false
  kind : fd.scope.kind = .function
  bind : ∀ vals : List Value, vals.length = ps.length → bindArgs fd ⟨vals, []⟩ = pure (ps.zip vals)
  nodup : (ps ++ ls).Nodup
  locs : (ps ++ ls).all (fun x => fd.scope.names.lookup x == some .local) = true
  cells : fd.scope.names.all (fun p => p.2 != .cell) = true

/-- a name of the def around, or of the top -/
noncomputable def ConOf (w : Wd) (G : Nat → Prop) (s : Shared) (sc : Scope) (clos : List (Str × Nat)) (x : Str) (d : D) : Prop :=
  (sc.names.lookup x = some .globalImplicit ∧ GlobD x d) ∨ (sc.names.lookup x = some .free ∧ (x == ("__classdict__" : Str)) = false ∧ ∃ c v, clos.lookup x = some c ∧ Own w c ∧ s.heap.IsCell c (some v) ∧ Rep s.heap G v d)

section
variable {w : Wd} {n : Nat}

theorem clo_enter {a : Nat} {o : Obj} {fd : FuncData} {body : List Stmt} {ps ls : List Str} {κ : Env2} {args : List D} (O : CloOk fd body ps ls) (hlen : ps.length = args.length) {A : Around} {G : Nat → Prop} {s : Shared} {vs : List Value} {RR : Result → Shared → Prop}
    (ho : s.heap.get? a = some o) (hfd : o.data = .func fd) (hcd : s.heap.CodeRec fd.code fd.qualname) (hap : fd.closure.Pairwise fun x y => x.2 ≠ y.2) (hκ : ∀ x d, (x, d) ∈ κ → ConOf w G s fd.scope fd.closure x d)
    (b : Bud A (n + 1)) (i : Inv w s) (z : Gz w G s) (ra : RepL s.heap G vs args)
    (h : ∀ env L s₁, Opened w n A fd κ (initR ps args ++ noneR ls) G s env (One L) s₁ → env.cells = fd.closure → wpAny (MM w) (A.deeper env) (execs body env) (fun f s' => RR (.ok (.ret (retOf f))) s') NoE s₁) : codeAny (MM w) A (.call (.ref a) ⟨vs, []⟩) RR s := by
  have hvl : vs.length = ps.length := ra.length.trans hlen.symm
  have hzn : (ps.zip vs).map (·.1) = ps := zip_names hvl
  have hpn : ps.Nodup := (List.nodup_append.mp O.nodup).1
  have hloc {x : Str} (hx : x ∈ ps ++ ls) : fd.scope.names.lookup x = some .local := eq_of_beq (List.all_eq_true.mp O.locs x hx)
  refine codeAny_call_function (by have := b.dep; omega) ho hfd O.co O.gen O.body hcd ?_
  rw [O.bind vs hvl]
  refine wpAny_pure (wpAny_newFunctionEnv (fun x hx q => ?_) (fun x hx => hloc (List.mem_append_left _ (hzn ▸ List.mem_map.mpr ⟨_, hx, rfl⟩))) (fun h' hns hsb => ?_) O.kind)
  · have h := List.all_eq_true.mp O.cells x hx
    rw [q] at h; exact absurd h (by decide)
  · have old : ∀ b o, s.heap.get? b = some o → h'.get? b = some o := fun b o e => hsb.extBut b o (Nat.ne_of_lt (Heap.lt_size e)) (Heap.get?_push_of_some _ e)
    have X : Ext w s G { s with heap := h', toks := s.toks + (ps.zip vs).length } G := .heap i old _
    refine ⟨i.nolimit.keeps old, codeAny_func ?_⟩
    generalize hE : newEnv fd.scope s.heap.objs.size fd.globals fd.closure (fd.qualname ++ ".<locals>.") (some a) fd.code none fd.builtins = env
    have e1 : env.scope = fd.scope := by rw [← hE]; rfl
    have e2 : env.globals = 3 := by rw [← hE]; exact O.glob
    have e3 : env.builtins = 0 := by rw [← hE]; exact O.blt
    have e4 : env.cells = fd.closure := by rw [← hE]; rfl
    have e5 : env.locals = s.heap.objs.size := by rw [← hE]; rfl
    have hkk {y : Str} {k : Option NameKind} (h : fd.scope.names.lookup y = k) : env.kindOf y = k := by rw [Env.kindOf, e1]; exact h
    have nL : s.heap.get? s.heap.objs.size = none := size_none _
    obtain ⟨oL, eL, pL, gL, dL⟩ := ns_data hns
    have R : Fo w env G (One s.heap.objs.size) (fun _ => 0) κ (initR ps args ++ noneR ls) { s with heap := h', toks := s.toks + (ps.zip vs).length } := {
      inv := X.inv
      st := ⟨by rw [e1]; exact O.kind, e2, e3⟩
      fz := X.gz i z
      fw := fun c hc q => no_size z (q ▸ hc)
      wz := fun c hc => hc ▸ ⟨i.own nL, oL, gL⟩
      wl := e5
      ns := ⟨_, e5 ▸ hns⟩
      cells := by rw [e4]; exact hap
      nodup := by rw [List.map_append, initR_names hlen, noneR_names]; exact O.nodup
      ents := fun y e hm => by
        rcases List.mem_append.mp hm with hm | hm
        · obtain ⟨d, v, hz, r⟩ := initR_mem ra hm
          refine ⟨v, .loc (hkk (hloc (List.mem_append_left ls (hzn ▸ List.mem_map.mpr ⟨_, hz, rfl⟩ : y ∈ ps)))) (e5 ▸ hns) (lookup_of_mem ?_ (List.mem_reverse.mpr hz)), X.rep z r⟩
          rw [List.map_reverse, hzn]
          exact List.pairwise_reverse.mpr (List.Pairwise.imp (fun h q => h q.symm) hpn)
        · obtain ⟨hy, rfl⟩ := plain_mem hm
          exact DeclAt.loc (hkk (hloc (List.mem_append_right ps hy)))
      cons := fun y d hm => by
        rcases hκ y d hm with ⟨hk, v, hg, hr⟩ | ⟨hk, hcdn, c, v, hc, oc, ⟨oc', eo, hd⟩, r⟩
        · exact ⟨v, .glo (hkk hk) hg, hr _ _⟩
        · exact ⟨v, .fre (.inr (hkk hk)) hcdn (by rw [e4]; exact hc) oc (fun q => nay nL (q ▸ eo)) ⟨oc', old _ _ eo, hd⟩, X.rep z r⟩
      sep := fun y y' e f he hf h1 => (List.mem_append.mp h1).elim (fun h1 => by cases initR_mem ra h1; cases he) fun h1 => by cases (plain_mem h1).2; cases he
      one := fun y y' e f he hf h1 => (List.mem_append.mp h1).elim (fun h1 => by cases initR_mem ra h1; cases he) fun h1 => by cases (plain_mem h1).2; cases he }
    exact wpAny_mono (h env _ _ ⟨e1, by rw [← hE]; rfl, by rw [← hE]; rfl, b.deep, b.frm (by rw [e1]; exact O.gen) (by rw [e1]; exact O.co) e3 e2, R, X, fun c hc => hc ▸ nL, fun c o vs hc e q => by
      have h := (congrArg (Option.map Obj.data) ((hc ▸ e : h'.get? s.heap.objs.size = some o).symm.trans gL)).trans (congrArg some dL)
      exact nomatch (Option.some.inj h).symm.trans q⟩ e4) (fun _ _ x => x) fun _ _ x => x.elim

/-- a call that changes nothing, of a def within a def -/
theorem clo_call {a : Nat} {o : Obj} {fd : FuncData} {body : List Stmt} {ps ls : List Str} {κ : Env2} {args : List D} {Q : D → Prop} (O : CloOk fd body ps ls) (hlen : ps.length = args.length) {A : Around} {G : Nat → Prop} {s : Shared} {vs : List Value}
    (ho : s.heap.get? a = some o) (hfd : o.data = .func fd) (hcd : s.heap.CodeRec fd.code fd.qualname) (hap : fd.closure.Pairwise fun x y => x.2 ≠ y.2) (hκ : ∀ x d, (x, d) ∈ κ → ConOf w G s fd.scope fd.closure x d)
    (b : Bud A (n + 1)) (i : Inv w s) (z : Gz w G s) (ra : RepL s.heap G vs args)
    (h : SVs w n fd.scope κ (initR ps args ++ noneR ls) body (kFn Q)) : wpAny (MM w) A (call (.ref a) vs) (Post w s G Q) NoE s :=
  wpAny_call (clo_enter O hlen ho hfd hcd hap hκ b i z ra fun env L s₁ o _ => o.fin h)
end
end Mine
end

noncomputable section
--# Lb23
namespace Mine
open PySem PySem.W PyProof.Rows PySem.Calls PyProof.V PySem.Spec PySem.SeqAt

noncomputable def normD (a : List Int) (b : Int) : D := .tup [.tup (dints a), .int b]
noncomputable def normP (a : List Int) (b : Int) : PyData := .tuple [.tuple (a.map PyData.int), .int b]
theorem norm_reads {h : Heap} {G : Nat → Prop} {v : Value} {a : List Int} {b : Int} (r : Rep h G v (normD a b)) : Reads h v (normP a b) [] := by
  cases r using Rep.tupE with | tup g1 ht rs =>
  cases rs using RepL.twoE with | two r1 r2 =>
  cases r2 using Rep.intE with | int t =>
  cases r1 using Rep.tupE with | tup g2 ht2 rs2 =>
  obtain ⟨o, ho, hc, n, hd⟩ := ht
  obtain ⟨o2, ho2, hc2, n2, hd2⟩ := ht2
  exact Reads.tuple (as := []) ho hc hd (ReadsAll.cons (as := []) (bs := []) (Reads.tuple (as := []) ho2 hc2 hd2 (readsAll_of_ints rs2.ints)) (ReadsAll.cons (as := []) (bs := []) (Reads.int _ _) ReadsAll.nil))
theorem norm_shaped (a : List Int) (b : Int) : shaped (normP a b) = true := by
  have h1 := W.depthAll_ints a
  have h2 : PyData.depth (normP a b) ≤ 64 := by
    simp only [normP, PyData.depth, PyData.depthAll]
    omega
  show (PyData.canLay0 (normP a b) && decide (PyData.depth (normP a b) ≤ 64)) = true
  rw [Bool.and_eq_true]
  exact ⟨by simp [normP, PyData.canLay0, PyData.canLayAll0, canLayAll0_ints a], decide_eq_true h2⟩
theorem norm_mix (a c : List Int) (b d : Int) : noMix (normP a b) (normP c d) = true := by
  simp [normP, noMix, noMixAll, noMix_ints a c]
theorem norm_same (a c : List Int) (b d : Int) : PySem.Spec.same (normP a b) (normP c d) = decide (a = c ∧ b = d) := by
  simp only [normP, PySem.Spec.same, PySem.Spec.sameAll, same_ints a c]
  by_cases h1 : a = c <;> by_cases h2 : b = d <;> simp [h1, h2]

section
variable {w : Wd} {n : Nat}
theorem eq_norm {a c : List Int} {b d : Int} {Q : D → Prop} (q : Q (.bool (decide (a = c ∧ b = d)))) : Op2 w (n + 1) (compareOp .Eq) (normD a b) (normD c d) Q :=
  ⟨fun _ _ _ _ _ bd f i z r1 r2 => eq_dataH_same (norm_reads r1) (norm_reads r2) (norm_shaped a b) (norm_shaped c d) (by have := bd.uni; omega) (norm_mix a c b d) (norm_same a c b d ▸ Post.here i (.bool _) q)⟩
theorem isEmpty_len {α β : Type} {l : List α} {m : List β} (h : l.length = m.length) : l.toArray.isEmpty = m.isEmpty := by
  cases l <;> cases m <;> first | rfl | cases h
theorem tru_l {ds : List D} {B : Bool → Prop} (hf : (ds.length : Int) < 2 ^ 63) (q : B (!ds.isEmpty)) : Tru w n (.list ds) B := by
  constructor
  intro A G s v bd f i z r
  cases r using Rep.listE with | @list a vs ga hl rs =>
    have e : vs.toArray.isEmpty = ds.isEmpty := isEmpty_len rs.length
    refine wpAny_truthy_list hl (rs.length.symm ▸ hf : (vs.length : Int) < 2 ^ 63) ⟨G, ?_, .toks i _⟩
    rw [e]; exact q

/-- the table of signs -/
noncomputable def entD (e : DictEntry) : Option (Str × Int) := match e.key, e.val with | .str x _, .int k _ => some (x, k) | _, _ => none
noncomputable def tabEs (P : Params) : List DictEntry := match (KK P).lookup 151 with | some ⟨_, _, .dict es _, _⟩ => es.toList | _ => []
noncomputable def tabK (P : Params) : List (Str × Int) := (tabEs P).filterMap entD
noncomputable def tabOkB (P : Params) : Bool := (tabEs P).all fun e => (entD e).isSome
theorem find_tab {x : Str} : ∀ {l : List DictEntry}, (l.all fun e => (entD e).isSome) = true →
    match (l.filterMap entD).lookup x with
    | some k => ∃ t, (l.find? fun e => Value.isStrOf x e.key).map (·.val) = some (.int k t)
    | none => (l.find? fun e => Value.isStrOf x e.key) = none
  | [], _ => rfl
  | e :: l, h => by
    rw [List.all_cons, Bool.and_eq_true] at h
    have ih := find_tab (x := x) h.2
    obtain ⟨⟨y, k⟩, he⟩ := Option.isSome_iff_exists.mp h.1
    have hk : ∃ t u, e.key = .str y t ∧ e.val = .int k u := by
      unfold entD at he
      split at he
      · rename_i a b c d h1 h2
        cases he; exact ⟨_, _, h1, h2⟩
      · cases he
    obtain ⟨t, u, h1, h2⟩ := hk
    rw [List.filterMap_cons_some he, List.lookup_cons, List.find?_cons]
    cases hb : x == y with
    | true =>
      have : Value.isStrOf x e.key = true := by rw [h1]; simp [Value.isStrOf]; simpa using (by simpa using hb : x = y).symm
      rw [this]
      exact ⟨u, by simp [h2]⟩
    | false =>
      have : Value.isStrOf x e.key = false := by
        rw [h1]
        simp only [Value.isStrOf, beq_eq_false_iff_ne] at hb ⊢
        exact fun q => hb q.symm
      rw [this]
      exact ih
theorem keys_cons {P : Params} {e : DictEntry} {r : List DictEntry} {x : Str} {t : Tok} (h1 : e.key = .str x t) (h2 : e.hash = PyData.keyHash P x) (k : KeysLit P r) : KeysLit P (e :: r) := ⟨⟨x, t, h1, h2⟩, k⟩
theorem kk_tab : ∀ P, ∃ es n, (KK P).lookup 151 = some ⟨.type "dict", none, .dict es n, #[]⟩ ∧ KeysLit P es.toList := fun P => ⟨_, _, rfl, by
  repeat' (first | exact trivial | refine keys_cons rfl rfl ?_)⟩
theorem kk_tabOk : ∀ P, tabOkB P = true := fun P => by kernel_rfl
end
end Mine
end

noncomputable section
--# Lb24
namespace Mine
open PySem PySem.W PyProof.Rows PySem.Calls

/-- the signs of the token table, with their numbers -/
noncomputable def signTab : List (Str × Int) := ([("!", 54), ("!=", 28), ("%", 24), ("%=", 40), ("&", 19), ("&=", 41), ("(", 7), (")", 8), ("*", 16), ("**", 35), ("**=", 46), ("*=", 38), ("+", 14), ("+=", 36), (",", 12), ("-", 15), ("-=", 37), ("->", 51), (".", 23), ("...", 52), ("/", 17), ("//", 47), ("//=", 48), ("/=", 39), (":", 11), (":=", 53), (";", 13), ("<", 20), ("<<", 33), ("<<=", 44), ("<=", 29), ("=", 22), ("==", 27), (">", 21), (">=", 30), (">>", 34), (">>=", 45), ("@", 49), ("@=", 50), ("[", 9), ("]", 10), ("^", 32), ("^=", 43), ("{", 25), ("|", 18), ("|=", 42), ("}", 26), ("~", 31)] : List (String × Int)).map fun p => (Str.ofString p.1, p.2)
theorem kk_signs : ∀ P, tabK P = signTab := fun P => by kernel_rfl

section
variable {w : Wd} {n : Nat}
theorem tab_find {x : Str} : match signTab.lookup x with
    | some k => ∃ t, findBy Value.isStrOf (tabEs w.w.params).toArray x = some (.int k t)
    | none => findBy Value.isStrOf (tabEs w.w.params).toArray x = none := by
  have h := find_tab (x := x) (l := tabEs w.w.params) (kk_tabOk _)
  have e : (tabEs w.w.params).filterMap entD = signTab := kk_signs _
  rw [e] at h
  cases q : signTab.lookup x with
  | some k =>
    rw [q] at h
    obtain ⟨t, h⟩ := h
    refine ⟨t, ?_⟩
    unfold findBy
    rw [List.find?_toArray]; exact h
  | none =>
    rw [q] at h
    show findBy _ _ _ = none
    unfold findBy
    rw [List.find?_toArray, h]; rfl
theorem tab_map {s : Shared} (i : Inv w s) : s.heap.MapOf (PySem.strKind prog w.w) 151 (fun k => findBy Value.isStrOf (tabEs w.w.params).toArray k) := by
  obtain ⟨es, n, hl, hk⟩ := kk_tab w.w.params
  have := mapOf_K (prog := prog) (w := w.w) i.K hl hk
  have e : (tabEs w.w.params).toArray = es := by
    unfold tabEs
    rw [hl]
  rw [e]; exact this
theorem in_tab {x : Str} {Q : D → Prop} (q : Q (.bool (signTab.lookup x).isSome)) : Op2 w n (compareOp .In) (.str x) (.fn 151) Q := by
  constructor
  intro A G s v1 v2 bd f i z r1 r2
  cases r1 using Rep.strE with | str t =>
  cases r2 using Rep.fnE with | fn =>
  refine wpAny_in_of (k := x) (strKind_is prog w.w x t) (by rfl) (tab_map i) ?_
  have h := tab_find (w := w) (x := x)
  have e : (findBy Value.isStrOf (tabEs w.w.params).toArray x).isSome = (signTab.lookup x).isSome := by
    cases q : signTab.lookup x with
    | some k => rw [q] at h; obtain ⟨t, h⟩ := h; rw [h]; rfl
    | none =>
      rw [q] at h
      have h : findBy Value.isStrOf (tabEs w.w.params).toArray x = none := h
      rw [h]; rfl
  rw [e]
  exact Post.now i (.bool _) q _
theorem item_tab {value slice : Expr} {x : Str} {k : Int} {Q : D → Prop} (hk : signTab.lookup x = some k) (q : Q (.int k))
    (hs : ∀ o i, subscripted slice false o i = operate [o, i] (getItem o i) := by intro _ _; rfl) : Op2 w n (subscriptTail value slice) (.fn 151) (.str x) Q := by
  constructor
  intro A G s v1 v2 bd f i z r1 r2
  cases r1 using Rep.fnE with | fn =>
  cases r2 using Rep.strE with | str t =>
  have h := tab_find (w := w) (x := x)
  rw [hk] at h
  obtain ⟨u, h⟩ := h
  have hm := tab_map (w := w) i
  exact tail_any hm.typeIs slot_dict_getitem.lookup (wpAny_getItem_of (k := x) (strKind_is prog w.w x t) hm h (Post.now i (.int ..) q _)) (hs _ _)
end
end Mine
end

noncomputable section
--# Lb25
namespace Mine
open PySem PySem.W PyProof.Rows PySem.Calls

noncomputable def hNote (env : Env) (e : Value) : Sem PySem.Fin := (do noteFrame e env; theTreesLotGoes e : Sem Unit).wrap (fun _ => .raise e) .raise id id

section
variable {w : World} {A : Around} {R : GenEnd} {Y : Protocol} {n : Nat} {s₀ : Shared} {c : Code} {fs : List Frame} {s : Shared} {env : Env}
  {K : Flow → Sem PySem.Fin} {H : Value → Sem PySem.Fin} {gd : Bool → Bool} {lv : List Value → List Value}

theorem seg_For {target iter : Expr} {body : List Stmt} {pos : Pos}
    (h : wpAny (model prog w) (A.over c fs) (eval iter env) (fun x s1 => wpAny (model prog w) (A.over c fs) (pyIter x) (fun it s2 => ∀ p, Seg (model prog w) A R Y n s₀ (.forLoop target it body [] env) ((model prog w).den (.forLoop target it body [] env))
      (.ret (fun r => ((match r with | .ok f => (.pure f : Sem Flow) | .error e => .raise e).onRaise fun (x : Value) => do
        if (← field x 1) == Value.none then unsupported "frame.own-activation:exception-without-traceback"
        setFlight x env.frame).wrap K H gd lv) none (gd false) (lv []) c p [] :: fs) s2) NoE s1) NoE s)
    (hs : ∀ x, foldedSetIterable iter env x = pure x) : Seg (model prog w) A R Y n s₀ c ((exec (.For target iter body [] pos) env).wrap K H gd lv) fs s := by
  rw [exec_For]
  show Seg _ A R Y n s₀ c (.at pos fun _ => (eval iter env >>= fun x => foldedSetIterable iter env x >>= fun x => standAt iter.pos >>= fun _ => holding [x] (pyIter x) >>= fun it => runOwn (.forLoop target it body [] env) env).wrap K H gd lv) fs s
  refine seg_at ?_
  rw [Sem.bind_eq_wrap', Sem.wrap_wrap]
  refine seg_wrap (wpAny_mono h (fun x s1 h1 => ?_) fun _ _ x => x.elim)
  rw [hs x]
  show Seg _ A R Y n s₀ c (.at iter.pos fun _ => (holding [x] (pyIter x) >>= fun it => runOwn (.forLoop target it body [] env) env).wrap K H gd lv) fs s1
  refine seg_at ?_
  rw [Sem.bind_eq_wrap', Sem.wrap_wrap]
  refine seg_wrap (wpAny_holding (wpAny_mono h1 (fun it s2 h2 => ?_) fun _ _ x => x.elim))
  exact seg_call h2

theorem seg_forLoop {target : Expr} {it : Value} {body : List Stmt}
    (h : wpAny (model prog w) (A.over (.forLoop target it body [] env) fs) (pyNext it) (fun r s1 => match r with
      | none => Seg (model prog w) A R Y n s₀ (.forLoop target it body [] env) (.pure (.again (.block [] env))) fs s1
      | some v => wpAny (model prog w) (A.over (.forLoop target it body [] env) fs) (letOwnedTupleGo target it v) (fun _ s2 => wpAny (model prog w) (A.over (.forLoop target it body [] env) fs) (assign target env v) (fun _ s3 =>
          Seg (model prog w) A R Y n s₀ (.forLoop target it body [] env) ((execs body env).wrap (fun f => match f with
            | .next | .cont => .pure (.again (.forLoop target it body [] env))
            | .brk => .pure (.done .next)
            | .ret v => .pure (.done (.ret v))) (hNote env) id id) fs s3) NoE s2) NoE s1) NoE s) :
    Seg (model prog w) A R Y n s₀ (.forLoop target it body [] env) ((model prog w).den (.forLoop target it body [] env)) fs s := by
  show Seg _ A R Y n s₀ _ ((forTurn target it body [] env).onRaise (fun x => do noteFrame x env; theTreesLotGoes x)) fs s
  unfold forTurn
  rw [Sem.onRaise_eq_wrap]
  refine seg_at ?_
  show Seg _ A R Y n s₀ _ (((pyNext it).onRaise (fun _ => standAt { target.pos with line := 0 }) >>= _).wrap _ _ _ _) fs s
  rw [Sem.bind_eq_wrap', Sem.wrap_wrap]
  refine seg_wrap (wpAny_onRaise (wpAny_mono h (fun r s1 h1 => ?_) fun _ _ x => x.elim))
  cases r with
  | none => exact h1
  | some v =>
    show Seg _ A R Y n s₀ _ ((letOwnedTupleGo target it v >>= fun _ => assign target env v >>= fun _ => execs body env >>= fun f => match f with
      | .next | .cont => again (.forLoop target it body [] env)
      | .brk => pure (.done .next)
      | .ret v => pure (.done (.ret v))).wrap _ _ _ _) fs s1
    rw [Sem.bind_eq_wrap', Sem.wrap_wrap]
    refine seg_wrap (wpAny_mono h1 (fun _ s2 h2 => ?_) fun _ _ x => x.elim)
    rw [Sem.bind_eq_wrap', Sem.wrap_wrap]
    refine seg_wrap (wpAny_mono h2 (fun _ s3 h3 => ?_) fun _ _ x => x.elim)
    rw [Sem.bind_eq_wrap', Sem.wrap_wrap]
    rw [Sem.wrap_congr (execs body env) _ _ (K' := fun f => match f with
            | .next | .cont => .pure (.again (.forLoop target it body [] env))
            | .brk => .pure (.done .next)
            | .ret v => .pure (.done (.ret v))) (H' := hNote env)
        (fun f => by cases f <;> rfl)
        (fun e => by first | exact Sem.bind_eq_wrap _ _ | (show (do noteFrame e env; theTreesLotGoes e : Sem Unit).bind (fun _ => .raise e) = _; rw [Sem.bind_eq_wrap]; rfl))]
    exact h3

end
end Mine
end

noncomputable section
--# Lb26
namespace Mine
open PySem PySem.W PyProof.Rows PySem.Calls

section
variable {w : Wd} {n : Nat} {A : Around} {s s' : Shared} {G : Nat → Prop}

/-- a generator of a def's, woken -/
theorem next_gen {a g k : Nat} {gs : GenState} {P : Nat → Shared → Shared → Prop} {Y : Protocol} {E : Value → Shared → Prop} {Q : Option Value → Shared → Prop} (hh : A.handled = none) (hl : s.heap.NoLimit) (hroom : A.depth < recursionLimit) (hg : s.heap.IsGen a g) (hgs : s.gens[g]? = some gs)
    (hgo : gs.Goes (MM w) A.in1 (fun n s₀ r s₁ => r = .ok (.ret .none) ∧ P n s₀ s₁) Y k (.send .none) (s.setGen g .running))
    (hY : ∀ v s₁ gs', gs'.bare = true → Y (k - 1) (s.setGen g .running) v s₁ (fun r' s'' => match k with
        | 0 => False
        | m + 1 => gs'.Goes (MM w) A.in1 (fun n s₀ r s₁ => r = .ok (.ret .none) ∧ P n s₀ s₁) Y m r' s'') → Q (some v) (s₁.setGen g gs'))
    (hP : ∀ s₁, P k (s.setGen g .running) s₁ → ∀ h', (∀ b o, s₁.heap.get? b = some o → h'.get? b = some o) → Q none { s₁.setGen g .finished with heap := h' }) :
    wpAny (MM w) A (pyNext (.ref a)) Q E s := by
  unfold pyNext
  refine wpAny_bind (wpAny_attempt (wpAny_callSpecial?_slot (name := Str.ofString "__next__") hg.typeIs slot_gen_next (wpAny_call_entry slot_gen_next hg.typeIs entry_gen_next ?_ (args_gen_next _))))
  show wpAny _ A.in1 (Builtin.Generator.genWake (.ref a) (.send .none)) _ _ s
  unfold Builtin.Generator.genWake
  refine wpAny_bind (wpAny_holding (wpAny_genNumber hg (wpAny_bind (wpAny_genState hgs ?_))))
  cases gs with
  | running => exact hgo.elim
  | finished => exact hgo.elim
  | _ =>
    refine wpAny_bind (wpAny_roomToWake hl hroom ?_)
    show wpAny _ A.in1 (.resume g (.send .none) [] _) _ _ s
    refine wpAny_resumeQ hgs hgo (fun x s₁ hx => ?_) (fun v s₁ gs' hb hv => wpAny_pure ⟨v, rfl, wpAny_pure (hY v s₁ gs' hb hv)⟩)
    obtain ⟨rfl, hp⟩ := hx
    show wpAny _ A.in1 (newExc (.type "StopIteration") [] >>= _) _ _ _
    refine wpAny_bind ?_
    simp only [newExc, newTuple]
    refine wpAny_bind (wpAny_newObj_type ?_ (by size_fits))
    refine wpAny_bind (m := firstArgMember _ _) (wpAny_of_eq (a := Value.none) (by first | rfl | (simp only [firstArgMember]; rfl)) ?_)
    refine wpAny_newObj_type ?_ (by size_fits)
    simp only [raiseNew]
    refine wpAny_bind (wpAny_bind (wpAny_handled ?_))
    first | rw [show A.in1.handled = none from hh] | rw [hh]
    refine wpAny_throw ?_
    refine wpAny_bind (wpAny_isInstance (T := "StopIteration") (b := true) ⟨_, Heap.get?_push_size _ rfl, rfl⟩ isSubtype_stop ?_)
    exact wpAny_pure (hP s₁ hp _ fun b o hb => Heap.get?_push_of_some _ (Heap.get?_push_of_some _ hb))

theorem bare_set {gens : Array GenState} (h : AllBare gens) {g : Nat} {x : GenState} (hx : x.bare = true) : AllBare (gens.setIfInBounds g x) := fun y hy => by
  obtain ⟨i, hi, rfl⟩ := Array.mem_iff_getElem.mp hy
  have hi' : i < gens.size := by simpa using hi
  rw [Array.getElem_setIfInBounds hi']
  split
  · exact hx
  · exact h _ (Array.getElem_mem hi')
theorem Inv.setGen (i : Inv w s) {g : Nat} {x : GenState} (hx : x.bare = true) : Inv w (s.setGen g x) := ⟨i.base, i.t1, i.t2, bare_set i.bare hx⟩

/-- the items still to come when k are left -/
noncomputable def remD (all : List D) (k : Nat) : List D := all.drop (all.length - k)
/-- what the generator's stretches do: they change no more than Js -/
noncomputable def GP (w : Wd) (all : List D) (Js : Nat → Prop) (n : Nat) (s₀ s₁ : Shared) : Prop := remD all n = [] ∧ AdvJ w Js Nil s₀ Nil s₁ Nil
/-- an item is yielded -/
inductive GGot (w : Wd) (all : List D) (Js : Nat → Prop) (n : Nat) (s₀ : Shared) (v : Value) (s₁ : Shared) (kap : Resume → Shared → Prop) : Prop
  | mk (d : D) (t : Nat) (e : remD all (n + 1) = d :: remD all n) (ht : s₀.heap.get? t = none) (nt : ¬ Js t) (tt : ∃ o, s₁.heap.get? t = some o) (r : Rep s₁.heap (One t) v d) (x : AdvJ w Js Nil s₀ Nil s₁ Nil) (jt : Th Js s₁) (k : ∀ s₂, Inv w s₂ → KeepsJ Js s₁ s₂ → kap (.send .none) s₂)
noncomputable def GY (w : Wd) (all : List D) (Js : Nat → Prop) : Protocol := fun n s₀ v s₁ kap => GGot w all Js n s₀ v s₁ kap
abbrev GR (w : Wd) (all : List D) (Js : Nat → Prop) (n : Nat) (s₀ : Shared) (r : Result) (s₁ : Shared) : Prop := r = .ok (.ret .none) ∧ GP w all Js n s₀ s₁

theorem letgo_gen {a g : Nat} {elts : List Expr} {k : Nat} {p : Pos} {v : Value} {M : Model} {E : Value → Shared → Prop} {Q : Unit → Shared → Prop} (hg : s.heap.IsGen a g) (h : Q () s) : wpAny M A (letOwnedTupleGo (.Tuple elts k p) (.ref a) v) Q E s := by
  obtain ⟨o, nm, qn, ho, hc, hd, hsl⟩ := hg
  unfold letOwnedTupleGo
  cases v with
  | ref b =>
    refine wpAny_bind (wpAny_load ho ?_)
    rw [hc, hd]
    have e : (["enumerate", "zip", "dict_itemiterator", "dict_reverseitemiterator", "odict_iterator", "itertools.zip_longest", "itertools.pairwise"].contains "generator") = false := by decide
    dsimp only
    rw [e]
    exact wpAny_pure h
  | _ => exact wpAny_pure h

/-- one stretch of the generator's, seen from outside -/
theorem AdvJ.gen {Js J : Nat → Prop} {g : Nat} {s₁ : Shared} {gs' : GenState} (x : AdvJ w Js Nil (s.setGen g .running) Nil s₁ Nil) (z : Gz w G s) (h : ∀ a, Js a → J a ∨ s.heap.get? a = none) (hb : gs'.bare = true) {h' : Heap} (hk : ∀ b o, s₁.heap.get? b = some o → h'.get? b = some o) :
    AdvJ w J (One g) s G { s₁.setGen g gs' with heap := h' } G where
  there := fun b o nj e => (x.there b o (fun q => (h b q).elim nj fun q => Mine.nay q e) e).elim fun o' e' => ⟨o', hk _ _ e'⟩
  keep := fun b o e nj nt => hk _ _ (x.keep b o e (fun q => (h b q).elim nj fun q => Mine.nay q e) nt)
  tab := fun b hb => (x.tab b hb).trans ((x.inv.tabs hb).elim fun ps e => .inl ((hk _ _ e).trans e.symm))
  gens := fun i z hi e => (Array.getElem?_setIfInBounds_ne fun q => hi q.symm).trans (x.gens i z (fun h => h) ((Array.getElem?_setIfInBounds_ne fun q => hi q.symm).trans e))
  os := x.os
  inv := (x.inv.setGen (g := g) hb).keeps hk (s₁.setGen g gs').toks
  sub := fun _ h => h
  new := fun _ h => .inl h

noncomputable def J3 (L e it : Nat) : Nat → Prop := fun b => b = L ∨ b = e ∨ b = it

theorem remD_all (all : List D) : remD all all.length = all := by rw [remD, Nat.sub_self]; rfl
theorem remD_zero (all : List D) : remD all 0 = [] := List.drop_length

/-- the generator's function is fresh -/
noncomputable def GFresh (w : Wd) (A : Around) (all : List D) (L : Nat) (m₀ : Str → Option Value) (env : Env) (body : List Stmt) : Prop :=
  ∀ s₀ : Shared, Inv w s₀ → s₀.heap.Ns L m₀ → ∃ e it, s₀.heap.get? e = none ∧ s₀.heap.get? it = none ∧ Seg (MM w) A.in1 (GR w all (J3 L e it)) (GY w all (J3 L e it)) all.length s₀ (.func body env) ((MM w).den (.func body env)) [] s₀
noncomputable def GGoes (w : Wd) (A : Around) (all : List D) (Js : Nat → Prop) (gs : GenState) (k : Nat) (s : Shared) : Prop := gs.Goes (MM w) A.in1 (GR w all Js) (GY w all Js) k (.send .none) s
/-- a generator's state between its stretches -/
inductive PGen (w : Wd) (A : Around) (a g L : Nat) (m₀ : Str → Option Value) (env : Env) (body : List Stmt) (all : List D) (G J : Nat → Prop) (ds : List D) (s : Shared) : Prop
  | new (ig : s.heap.IsGen a g) (hJ : ∀ b, J b ↔ (b = a ∨ b = L)) (e : ds = all) (hg : s.gens[g]? = some (.fresh (.func body env))) (hn : s.heap.Ns L m₀)
  | mid (ig : s.heap.IsGen a g) (e it : Nat) (gs : GenState) (hJ : ∀ b, J b ↔ (b = a ∨ J3 L e it b)) (na : ¬ J3 L e it a) (hg : s.gens[g]? = some gs) (hr : ds = remD all ds.length) (go : ∀ s₂, Inv w s₂ → KeepsJ (J3 L e it) s s₂ → GGoes w A all (J3 L e it) gs ds.length s₂)
inductive Woken (w : Wd) (A : Around) (a g L : Nat) (all : List D) (J : Nat → Prop) (ds : List D) (s : Shared) : Prop
  | mk (ig : s.heap.IsGen a g) (e it : Nat) (gs : GenState) (na : ¬ J3 L e it a) (ja : J a) (hs : ∀ b, J3 L e it b → J b ∨ s.heap.get? b = none) (hg : s.gens[g]? = some gs) (hr : ds = remD all ds.length) (go : GGoes w A all (J3 L e it) gs ds.length (s.setGen g .running))
theorem gen_at {h : Heap} {a g : Nat} (x : h.IsGen a g) : ∃ o, h.get? a = some o ∧ ∃ vs, o.data = .fields vs := let ⟨o, _, _, e, _, d, _⟩ := x; ⟨o, e, _, d⟩
theorem gen_move {h h' : Heap} {a g : Nat} (x : h.IsGen a g) (k : ∀ o, h.get? a = some o → h'.get? a = some o) : h'.IsGen a g := let ⟨o, nm, qn, e, r⟩ := x; ⟨o, nm, qn, k o e, r⟩
theorem PGen.wake {a g L : Nat} {env : Env} {body : List Stmt} {all : List D} {m₀ : Str → Option Value} {J : Nat → Prop} {ds : List D} (hfresh : GFresh w A all L m₀ env body) (i : Inv w s) (h : PGen w A a g L m₀ env body all G J ds s) : Woken w A a g L all J ds s := by
  cases h with
  | new ig hJ hd hg hn =>
    obtain rfl := hd
    obtain ⟨e, it, he, hi, sg⟩ := hfresh (s.setGen g .running) (i.setGen rfl) hn
    obtain ⟨og, hog, vs, hdg⟩ := gen_at ig
    exact ⟨ig, e, it, _, fun q => q.elim (fun q => ne_ns hn hog (fun _ _ q => nomatch hdg.symm.trans q) q) fun q => q.elim (fun q => nay he (q ▸ hog : s.heap.get? e = some og)) fun q => nay hi (q ▸ hog : s.heap.get? it = some og), (hJ a).mpr (.inl rfl),
      fun b q => q.elim (fun q => .inl ((hJ b).mpr (.inr q))) fun q => .inr (q.elim (fun q => q ▸ he) fun q => q ▸ hi), hg, (remD_all _).symm, ⟨rfl, sg⟩⟩
  | mid ig e it gs hJ na hg hr hgo => exact ⟨ig, e, it, gs, na, (hJ a).mpr (.inl rfl), fun b hb => .inl ((hJ b).mpr (.inr hb)), hg, hr, hgo _ (i.setGen rfl) fun _ _ _ e => e⟩
theorem itr_gen {a g L : Nat} {env : Env} {body : List Stmt} {all : List D} {m₀ : Str → Option Value} {elts : List Expr} {kk : Nat} {p : Pos} (bd : Bud A n) (oL : Own w L) (oa : Own w a) (hfresh : GFresh w A all L m₀ env body) :
    Itr w n A (.Tuple elts kk p) (.ref a) (One g) (PGen w A a g L m₀ env body all) where
  stab := fun G G' J ds s s' h sub kG kJ kg => by
    cases h with
    | new ig hJ hd hg hn => exact .new (gen_move ig fun o => kJ _ o ((hJ a).mpr (.inl rfl))) hJ hd (kg _ _ hg) (hn.at fun o e => kJ _ o ((hJ L).mpr (.inr rfl)) e)
    | mid ig e it gs hJ na hg hr hgo => exact .mid (gen_move ig fun o => kJ _ o ((hJ a).mpr (.inl rfl))) e it gs hJ na (kg _ _ hg) hr fun s₂ i₂ k₂ => hgo s₂ i₂ fun b o hb e => k₂ b o hb (kJ b o ((hJ b).mpr (.inr hb)) e)
  step := fun G J d ds s b f i z jz h => by
    obtain ⟨ig, e, it, gs, na, ja, hs, hg, hr, hgo⟩ := h.wake hfresh i
    refine next_gen (k := ds.length + 1) b.hnd i.nolimit (by have := bd.dep; omega) ig hg hgo (fun v s₁ gs' hb hy => ?_) fun s₁ hp h' hk => nomatch (hr.symm ▸ hp.1 : d :: ds = [])
    obtain ⟨d', t, hrem, ht, njt, ⟨ot, hot⟩, rt, x, jt, kap⟩ := hy
    rw [show (ds.length + 1 - 1 + 1) = (d :: ds).length from rfl, ← hr] at hrem
    obtain ⟨rfl, e2⟩ := List.cons.inj hrem
    have ig₁ : s₁.heap.IsGen a g := gen_move ig fun o e => x.keep a o e na oa.notTab
    have ta : ∃ o, s₁.heap.get? a = some o := (gen_at ig₁).elim fun o h => ⟨o, h.1⟩
    have av : AdvJ w J (One g) s G (s₁.setGen g gs') G := AdvJ.gen x z hs hb (h' := s₁.heap) fun _ _ e => e
    have hgg : (s₁.setGen g gs').gens[g]? = some gs' := setGen_self (x.gens g .running (fun h => h) (setGen_self hg))
    exact ⟨v, rfl, letgo_gen (s := s₁.setGen g gs') ig₁ ⟨Plus G t, fun b => b = a ∨ J3 L e it b, rt.up fun _ h => .inr h, .mid ig₁ e it gs' (fun _ => Iff.rfl) na hgg e2 fun s₂ i₂ k₂ => kap s₂ i₂ k₂, av.plus ht hot,
      fun c hc => (Classical.em (J3 L e it c)).elim (jt c) fun q => (jz c hc).2.2.elim fun o eo => ⟨o, x.keep c o eo q (jz c hc).2.1.notTab⟩,
      fun c hc => ⟨hc.elim (fun q => .inl (q ▸ ja)) fun hc => (hs c hc).imp id fun q => ⟨q, jt c hc⟩,
        fun q => q.elim (fun q => hc.elim (fun h => (jz _ ja).1 (h ▸ q)) fun hc => (hs c hc).elim (fun h => (jz _ h).1 q) fun h => z.nay h q) fun q => hc.elim (fun h => (gen_at ig).elim fun o p => nay ht (q ▸ h ▸ p.1 : s.heap.get? t = some o)) fun hc => njt (q ▸ hc),
        hc.elim (fun h => h ▸ ta) (jt c)⟩⟩⟩
  self := fun G J ds s Q E h q => by
    cases h with
    | new ig _ _ _ _ => exact wpAny_pyIter_gen ig q
    | mid ig _ _ _ _ _ _ _ _ => exact wpAny_pyIter_gen ig q
  stop := fun G J s b f i z jz h => by
    obtain ⟨ig, e, it, gs, na, ja, hs, hg, hr, hgo⟩ := h.wake hfresh i
    refine next_gen (k := 0) b.hnd i.nolimit (by have := bd.dep; omega) ig hg hgo (fun v s₁ gs' hb hy => ?_) fun s₁ hp h' hk => ⟨rfl, AdvJ.gen hp.2 z hs rfl hk⟩
    obtain ⟨_, _, _, _, _, _, _, x, _, kap⟩ := hy
    exact (kap s₁ x.inv fun _ _ _ e => e).elim
end
end Mine
end

noncomputable section
--# Lb27
namespace Mine
open PySem PySem.W PyProof.Rows PySem.Calls

structure GnOk (a : Nat) (fd : FuncData) (body : List Stmt) (x : Str) : Prop where
  at' : ∀ P, ∃ oc od osl, (KK P).lookup a = some ⟨oc, od, .func fd, osl⟩
  body : fd.body = .stmts body
  clo : fd.closure = []
  glob : fd.globals = 3
  blt : fd.builtins = 0
  co : fd.scope.isCoroutine = false
  gen : fd.scope.isGenerator = true
  kind : fd.scope.kind = .function
  code : ∀ P, codeIn (KK P) fd.code fd.qualname = true
  bind : ∀ v : Value, bindArgs fd ⟨[v], []⟩ = pure [(x, v)]
  cells : fd.scope.names.all (fun p => p.2 != .cell) = true
  loc : fd.scope.names.lookup x = some .local

section
variable {w : Wd} {n : Nat}

theorem gen_call {a : Nat} {fd : FuncData} {body : List Stmt} {x : Str} {y : Str} {all : List D} {elts : List Expr} {kk : Nat} {p : Pos} {Q : List D → Prop} (O : GnOk a fd body x) (q : Q all)
    (hwalk : ∀ (A : Around) (env : Env) (L : Nat) (t : Tok), env.scope = fd.scope → env.globals = 3 → env.builtins = 0 → env.locals = L → Bud A n → Own w L → GFresh w A all L (fun z => ([(x, .str y t)] : List (Str × Value)).reverse.lookup z) env body) :
    CallI w (n + 1) (.Tuple elts kk p) (.fn a) [.str y] Q := by
  constructor
  intro A G s vf vs b f i z rf ra
  cases rf using Rep.fnE with | fn =>
  cases ra using RepL.oneE with | one r =>
  cases r using Rep.strE with | str t =>
      obtain ⟨oc, od, osl, ho⟩ := O.at' w.w.params
      refine wpAny_call (codeAny_call_generator (by have := b.dep; omega) (i.K _ _ ho) rfl O.co O.gen O.body (codeRec_of i.K (O.code _)) ?_)
      rw [O.bind, O.clo]
      refine wpAny_pure (wpAny_newFunctionEnv (fun x hx q => ?_) (fun x hx => ?_) (fun h' hns hsb => ?_) O.kind)
      · have h := List.all_eq_true.mp O.cells x hx
        rw [q] at h; exact absurd h (by decide)
      · exact List.mem_singleton.mp hx ▸ O.loc
      · have old : ∀ b o, s.heap.get? b = some o → h'.get? b = some o := fun b o e => hsb.extBut b o (Nat.ne_of_lt (Heap.lt_size e)) (Heap.get?_push_of_some _ e)
        refine ⟨i.nolimit.keeps old, ?_⟩
        generalize hE : newEnv fd.scope s.heap.objs.size fd.globals [] (fd.qualname ++ ".<locals>.") (some a) fd.code none fd.builtins = env
        have e1 : env.scope = fd.scope := by rw [← hE]; rfl
        have e2 : env.globals = 3 := by rw [← hE]; exact O.glob
        have e3 : env.builtins = 0 := by rw [← hE]; exact O.blt
        have e5 : env.locals = s.heap.objs.size := by rw [← hE]; rfl
        have nL : s.heap.get? s.heap.objs.size = none := size_none _
        dsimp only
        generalize hobj : ({ cls := .type "generator", data := .fields #[.int s.gens.size 0, .str fd.name (s.toks + ([(x, Value.str y t)] : List (Str × Value)).length), .str fd.qualname (s.toks + ([(x, Value.str y t)] : List (Str × Value)).length + 1)] } : Obj) = obj
        have hsz : s.heap.objs.size < h'.objs.size := hns.lt
        have na : s.heap.get? h'.objs.size = none := Heap.get?_none_of_le (Nat.le_of_lt hsz)
        have keep : ∀ b o, s.heap.get? b = some o → (h'.push obj).get? b = some o := fun b o e => Heap.get?_push_of_some _ (old b o e)
        have ig : (h'.push obj).IsGen h'.objs.size s.gens.size := ⟨obj, _, _, Heap.get?_push_size _ (by subst hobj; rfl), by subst hobj; rfl, by subst hobj; rfl, by subst hobj; rfl⟩
        have i1 : Inv w { s with heap := h'.push obj, gens := s.gens.push (.fresh (.func body env)), toks := s.toks + ([(x, Value.str y t)] : List (Str × Value)).length + 1 + 1 } := by
          have i0 := i.keeps keep s.toks
          exact ⟨i0.base, i0.t1, i0.t2, fun z hz => (Array.mem_push.mp hz).elim (i.bare z) fun e => e ▸ rfl⟩
        refine wpAny_pyIter_gen (s := { s with heap := h'.push obj, gens := s.gens.push (.fresh (.func body env)), toks := s.toks + ([(x, Value.str y t)] : List (Str × Value)).length + 1 + 1 }) ig ?_
        have oL := i.own nL
        have oa := i.own na
        refine ⟨G, all, fun c => c = h'.objs.size ∨ c = s.heap.objs.size, One s.gens.size, _, q, itr_gen (L := s.heap.objs.size) (env := env) (body := body) (all := all) (m₀ := fun z => ([(x, .str y t)] : List (Str × Value)).reverse.lookup z) b oL oa (hwalk A env _ t e1 e2 e3 e5 (b.le (Nat.le_succ n)) oL),
          .new ig (fun _ => Iff.rfl) rfl Array.getElem?_push_size (hns.at fun o e => Heap.get?_push_of_some _ e), ⟨fun c o e => ⟨o, keep c o e⟩, fun c o e _ _ => keep c o e, fun c hc => (i.tabs hc).elim fun ps e => .inl ((keep _ _ e).trans e.symm), fun j z e => ?_, rfl, i1, fun _ h => h, fun _ h => .inl h⟩,
          fun c hc => hc.elim (fun h => h ▸ ⟨na, ⟨_, Heap.get?_push_size _ (by subst hobj; rfl)⟩, z.nay na⟩) fun h => h ▸ ⟨nL, (ns_data hns).elim fun o h => h.elim fun _ h => h.elim fun _ h => ⟨o, Heap.get?_push_of_some _ h.1⟩, z.nay nL⟩, fun j hj => hj ▸ Array.getElem?_eq_none (Nat.le_refl _)⟩
        show (s.gens.push _)[j]? = some z
        have hj : j < s.gens.size := (Array.getElem?_eq_some_iff.mp e).1
        rw [Array.getElem?_push_lt hj]
        rw [Array.getElem?_eq_getElem hj] at e; exact e
end
end Mine
end

noncomputable section
--# Lb28
namespace Mine
open PySem PySem.W PyProof.Rows PySem.Calls

section
variable {w : World} {A : Around} {R : GenEnd} {Y : Protocol} {n : Nat} {s₀ : Shared} {c : Code} {fs : List Frame} {s : Shared} {env : Env}
  {K : Flow → Sem PySem.Fin} {H : Value → Sem PySem.Fin} {gd : Bool → Bool} {lv : List Value → List Value}

theorem seg_stmt {st : Stmt} (h : wpAny (model prog w) (A.over c fs) (exec st env) (fun f s' => Seg (model prog w) A R Y n s₀ c (K f) fs s') NoE s) : Seg (model prog w) A R Y n s₀ c ((exec st env).wrap K H gd lv) fs s :=
  seg_wrap (wpAny_mono h (fun _ _ x => x) fun _ _ x => x.elim)
theorem seg_If {test : Expr} {body orelse : List Stmt} {pos : Pos}
    (h : wpAny (model prog w) (A.over c fs) (isTrue test env (eval test env)) (fun b s' => kIte (Seg (model prog w) A R Y n s₀ c ((execs body env).wrap K H gd lv) fs s') (Seg (model prog w) A R Y n s₀ c ((execs orelse env).wrap K H gd lv) fs s') b) NoE s) :
    Seg (model prog w) A R Y n s₀ c ((exec (.If test body orelse pos) env).wrap K H gd lv) fs s := by
  rw [exec_If]
  show Seg _ A R Y n s₀ c (.at pos fun _ => ((isTrue test env (eval test env)) >>= fun b => if b then execs body env else execs orelse env).wrap K H gd lv) fs s
  refine seg_at ?_
  rw [Sem.bind_eq_wrap', Sem.wrap_wrap]
  refine seg_wrap (wpAny_mono h (fun b s' hb => ?_) fun _ _ x => x.elim)
  cases b <;> exact hb
theorem seg_blockNil (h : Seg (model prog w) A R Y n s₀ (.block [] env) (leafOf (.ok .next)) fs s) : Seg (model prog w) A R Y n s₀ c (.pure (.again (.block [] env))) fs s :=
  seg_again rfl h
end
end Mine
end

noncomputable section
--# Lb29
namespace Mine
open PySem PySem.W PyProof.Rows PySem.Calls

theorem drawsT {w : Wd} {A : Around} (hh : A.handled = none) (it : Nat) (y : Str) (t : Tok) :
    Draws prog w.w A it [it] y.cps.size (fun i v => ∃ c u, y.cps[i]? = some c ∧ v = .str ⟨#[c]⟩ u) (fun i h => h.IsStrIter it (strIterType y) y t i) := by
  unfold strIterType
  split
  · exact Draws.strAscii hh it y t
  · exact Draws.strWide hh it y t

inductive GNs (h : Heap) (L : Nat) (y : Str) (t : Tok) (esc : Bool) (pos : Nat) (ch : Option Value) : Prop
  | mk (m : Str → Option Value) (hn : h.Ns L m) (a1 : m "addr" = some (.str y t)) (u : Tok) (a2 : m "pos" = some (.int pos u)) (a3 : m "escape" = some (.bool esc)) (a4 : ∀ v, ch = some v → m "ch" = some v)
theorem GNs.move {h h' : Heap} {L : Nat} {y : Str} {t : Tok} {esc : Bool} {pos : Nat} {ch : Option Value} (x : GNs h L y t esc pos ch) (k : ∀ o, h.get? L = some o → h'.get? L = some o) : GNs h' L y t esc pos ch := by
  obtain ⟨m, hn, a1, u, a2, a3, a4⟩ := x
  exact ⟨m, hn.at k, a1, u, a2, a3, a4⟩
theorem str_isA {h : Heap} {it : Nat} {y : Str} {t : Tok} {i : Nat} (x : h.IsStrIter it (strIterType y) y t i) : ∃ T, T ≠ "code" ∧ IsA h it T fun o => o.data = .fields #[.str y t, .int i 0] := by
  refine ⟨_, ?_, x⟩
  unfold strIterType
  split <;> decide
/-- the generator's own things, i signs drawn -/
structure GS (w : Wd) (L e it : Nat) (y : Str) (t : Tok) (i : Nat) (esc : Bool) (pos : Nat) (ch : Option Value) (s₀ s : Shared) : Prop where
  inv : Inv w s
  ns : GNs s.heap L y t esc pos ch
  en : ∃ old, IsEnum s.heap e it i old
  st : s.heap.IsStrIter it (strIterType y) y t i
  adv : AdvJ w (J3 L e it) Nil s₀ Nil s Nil
  oL : Own w L
  oe : Own w e
  oi : Own w it

section
variable {w : Wd} {L e it : Nat} {y : Str} {t : Tok} {i : Nat} {esc : Bool} {pos : Nat} {ch : Option Value} {s₀ s s' : Shared}

theorem fields_ne {o o' : Obj} {vs us : Array Value} (h : o.data = .fields vs) (h' : o'.data = .fields us) (n : vs.size ≠ us.size) : o.data ≠ o'.data := fun q => n (congrArg (fun d : Data => match d with | .fields vs => vs.size | _ => 0) (h.symm.trans (q.trans h')))
theorem GS.ne (g : GS w L e it y t i esc pos ch s₀ s) : e ≠ it ∧ L ≠ e ∧ L ≠ it := by
  obtain ⟨m, hn, _⟩ := g.ns
  obtain ⟨old, he⟩ := g.en
  obtain ⟨oi, hi, hc, hdi⟩ := g.st
  exact ⟨ne_at hi he (fields_ne hdi rfl (show (2 : Nat) ≠ 6 by decide)), (ne_ns hn he fun _ _ q => nomatch q).symm, (ne_ns hn hi fun _ _ q => nomatch hdi.symm.trans q).symm⟩
theorem GS.there (g : GS w L e it y t i esc pos ch s₀ s) : Th (J3 L e it) s := fun a h => by
  obtain ⟨m, hn, _⟩ := g.ns
  obtain ⟨o, es, ep, eo, _⟩ := ns_data hn
  exact h.elim (fun h => h ▸ ⟨o, eo⟩) fun h => h.elim (fun h => h ▸ g.en.elim fun _ he => ⟨_, he⟩) fun h => h ▸ IsA.there g.st
theorem GS.ext (g : GS w L e it y t i esc pos ch s₀ s) (x : Ext w s Nil s' Nil) : GS w L e it y t i esc pos ch s₀ s' :=
  ⟨x.inv, g.ns.move fun o h => x.keepOwn g.oL h, g.en.elim fun old he => ⟨old, x.keepOwn g.oe he⟩, g.st.elim fun o p => ⟨o, x.keepOwn g.oi p.1, p.2⟩, g.adv.ext x g.there, g.oL, g.oe, g.oi⟩
/-- a new stretch -/
theorem GS.again (g : GS w L e it y t i esc pos ch s₀ s) (i' : Inv w s') (k : KeepsJ (J3 L e it) s s') : GS w L e it y t i esc pos ch s' s' :=
  ⟨i', g.ns.move fun o h => k _ o (.inl rfl) h, g.en.elim fun old he => ⟨old, k _ _ (.inr (.inl rfl)) he⟩, g.st.elim fun o p => ⟨o, k _ _ (.inr (.inr rfl)) p.1, p.2⟩, Ext.any (Adv.refl i') _ _, g.oL, g.oe, g.oi⟩
/-- the namespace changed -/
theorem GS.put (g : GS w L e it y t i esc pos ch s₀ s) {h' : Heap} (hs : Heap.SameBut L s.heap h') {esc' : Bool} {pos' : Nat} {ch' : Option Value} (n : GNs h' L y t esc' pos' ch') (tk : Nat) : GS w L e it y t i esc' pos' ch' s₀ { s with heap := h', toks := tk } := by
  obtain ⟨n1, n2, n3⟩ := g.ne
  obtain ⟨m, hn, _⟩ := g.ns
  obtain ⟨m', hn', _⟩ := id n
  obtain ⟨o, es, ep, eo, hd⟩ := ns_data hn
  obtain ⟨o', es', ep', eo', hd'⟩ := ns_data hn'
  have av : Adv w (J3 L e it) s Nil { s with heap := h', toks := tk } Nil := Adv.modify g.inv g.oL (.inl rfl) eo (fun vs q => nomatch hd.symm.trans q) hs eo' tk
  exact ⟨av.inv, n, g.en.elim fun old he => ⟨old, (hs.2 _ n2.symm).trans he⟩, g.st.elim fun o p => ⟨o, (hs.2 _ n3.symm).trans p.1, p.2⟩, g.adv.trans (av.j Nil) (fun b h => .inl h) (fun _ h => .inl h) (fun _ h => h.elim) g.there, g.oL, g.oe, g.oi⟩

/-- what the frame of the generator is -/
structure GE (env : Env) (L : Nat) : Prop where
  st : St env
  loc : env.locals = L
  kp : env.kindOf "pos" = some .local
  ke : env.kindOf "escape" = some .local
  kc : env.kindOf "ch" = some .local
  ka : env.kindOf "addr" = some .local
  kn : env.kindOf "enumerate" = some .globalImplicit

variable {env : Env} {A : Around} {E : Value → Shared → Prop}
theorem ite_no {a b : Str} {α : Type} {x y z : α} (h : a ≠ b) (q : y = z) : (if a = b then x else y) = z := (if_neg h).trans q
/-- a name stored -/
theorem GS.store (g : GS w L e it y t i esc pos ch s₀ s) (V : GE env L) {x : Str} {v : Value} (hk : env.kindOf x = some .local) {esc' : Bool} {pos' : Nat} {ch' : Option Value} {Q : Unit → Shared → Prop}
    (hm : ∀ h' (m : Str → Option Value), h'.Ns L (fun z => if z = x then some v else m z) → m "addr" = some (.str y t) → ∀ u, m "pos" = some (.int pos u) → m "escape" = some (.bool esc) → (∀ v, ch = some v → m "ch" = some v) → GNs h' L y t esc' pos' ch')
    (h : ∀ s', GS w L e it y t i esc' pos' ch' s₀ s' → Q () s') : wpAny (MM w) A (storeName env x v) Q E s := by
  obtain ⟨m, hn, a1, u, a2, a3, a4⟩ := g.ns
  obtain ⟨st, rfl, _⟩ := V
  exact wpAny_storeName_local hk hn (fun h' hn' hs => h _ (g.put hs (hm h' m hn' a1 u a2 a3 a4) _)) (by rw [st.kind]; rfl)
theorem GS.storeEsc (g : GS w L e it y t i esc pos ch s₀ s) (V : GE env L) {b : Bool} {Q : Unit → Shared → Prop} (h : ∀ s', GS w L e it y t i b pos ch s₀ s' → Q () s') : wpAny (MM w) A (storeName env "escape" (.bool b)) Q E s :=
  g.store V V.ke (fun h' m hn' a1 u a2 a3 a4 => ⟨_, hn', ite_no (by decide +kernel) a1, u, ite_no (by decide +kernel) a2, if_pos rfl, fun v hv => ite_no (by decide +kernel) (a4 v hv)⟩) h
theorem GS.storePos (g : GS w L e it y t i esc pos ch s₀ s) (V : GE env L) {k : Nat} {u : Tok} {Q : Unit → Shared → Prop} (h : ∀ s', GS w L e it y t i esc k ch s₀ s' → Q () s') : wpAny (MM w) A (storeName env "pos" (.int k u)) Q E s :=
  g.store V V.kp (fun h' m hn' a1 _ a2 a3 a4 => ⟨_, hn', ite_no (by decide +kernel) a1, u, if_pos rfl, ite_no (by decide +kernel) a3, fun v hv => ite_no (by decide +kernel) (a4 v hv)⟩) h
theorem GS.storeCh (g : GS w L e it y t i esc pos ch s₀ s) (V : GE env L) {v : Value} {Q : Unit → Shared → Prop} (h : ∀ s', GS w L e it y t i esc pos (some v) s₀ s' → Q () s') : wpAny (MM w) A (storeName env "ch" v) Q E s :=
  g.store V V.kc (fun h' m hn' a1 u a2 a3 a4 => ⟨_, hn', ite_no (by decide +kernel) a1, u, ite_no (by decide +kernel) a2, ite_no (by decide +kernel) a3, fun v' hv => (if_pos rfl).trans hv⟩) h

theorem GS.load (g : GS w L e it y t i esc pos ch s₀ s) (V : GE env L) {x : Str} {p : Pos} (hk : env.kindOf x = some .local) (hd : (x == ("__debug__" : Str)) = false) {Q : Value → Shared → Prop} (h : ∀ m : Str → Option Value, (∃ u, m "pos" = some (.int pos u)) → m "escape" = some (.bool esc) → (∀ v, ch = some v → m "ch" = some v) → ∃ v, m x = some v ∧ Q v s) : wpAny (MM w) A (eval (.Name x p) env) Q E s := by
  obtain ⟨m, hn, a1, u, a2, a3, a4⟩ := g.ns
  obtain ⟨st, rfl, _⟩ := V
  obtain ⟨v, e, q⟩ := h m ⟨u, a2⟩ a3 a4
  exact wpAny_Name (wpAny_loadName_local st.kind hk hn e q) hd
theorem GS.loadPos (g : GS w L e it y t i esc pos ch s₀ s) (V : GE env L) {p : Pos} {Q : Value → Shared → Prop} (h : ∀ u, Q (.int pos u) s) : wpAny (MM w) A (eval (.Name "pos" p) env) Q E s :=
  g.load V V.kp (by decide +kernel) fun _ a _ _ => a.elim fun u e => ⟨_, e, h u⟩
theorem GS.loadEsc (g : GS w L e it y t i esc pos ch s₀ s) (V : GE env L) {p : Pos} {Q : Value → Shared → Prop} (h : Q (.bool esc) s) : wpAny (MM w) A (eval (.Name "escape" p) env) Q E s :=
  g.load V V.ke (by decide +kernel) fun _ _ e _ => ⟨_, e, h⟩
theorem GS.loadCh {v : Value} (g : GS w L e it y t i esc pos (some v) s₀ s) (V : GE env L) {p : Pos} {Q : Value → Shared → Prop} (h : Q v s) : wpAny (MM w) A (eval (.Name "ch" p) env) Q E s :=
  g.load V V.kc (by decide +kernel) fun _ _ _ e => ⟨_, e _ rfl, h⟩
theorem GS.testEsc (g : GS w L e it y t i esc pos ch s₀ s) (V : GE env L) {p : Pos} {Q : Bool → Shared → Prop} (h : Q esc s) : wpAny (MM w) A (isTrue (.Name "escape" p) env (eval (.Name "escape" p) env)) Q E s :=
  isTrue_plain (g.loadEsc V (wpAny_truthy_bool h)) rfl

inductive GDrawn (w : Wd) (env : Env) (A : Around) (L e it : Nat) (y : Str) (t : Tok) (i : Nat) (esc : Bool) (c : Nat) (s₀ : Shared) (s3 : Shared) : Prop
  | mk (u : Tok) (g : GS w L e it y t (i + 1) esc i (some (.str ⟨#[c]⟩ u)) s₀ s3)
/-- one sign drawn -/
theorem GS.draw (g : GS w L e it y t i esc pos ch s₀ s) (V : GE env L) (hh : A.handled = none) {c : Nat} (hc : y.cps[i]? = some c) {p1 p2 tp : Pos} {k : Nat} {Q : Option Value → Shared → Prop}
    (h : ∀ v s1, wpAny (MM w) A (letOwnedTupleGo (.Tuple [.Name "pos" p1, .Name "ch" p2] k tp) (.ref e) v) (fun _ s2 => wpAny (MM w) A (assign (.Tuple [.Name "pos" p1, .Name "ch" p2] k tp) env v) (fun _ s3 => GDrawn w env A L e it y t i esc c s₀ s3) NoE s2) NoE s1 → Q (some v) s1) :
    wpAny (MM w) A (pyNext (.ref e)) Q E s := by
  obtain ⟨n1, n2, n3⟩ := g.ne
  obtain ⟨old, he⟩ := g.en
  have hlt : i < y.cps.size := (Array.getElem?_eq_some_iff.mp hc).1
  refine wpAny_pyNext_enum_itemD (drawsT (w := w) (A := A.in1) hh it y t) he g.st hlt n1 (fun h => n1 (List.mem_singleton.mp h)) fun x h' tk hP heo hst ht hsz hk => h _ _ (wpAny_letOwnedTupleGo_enum heo fun h₂ he₂ hs₂ => ?_)
  obtain ⟨c', u, hc', rfl⟩ := hP
  obtain rfl := Option.some.inj (hc.symm.trans hc')
  have hk2 : ∀ b o, ¬ Duo e it b → s.heap.get? b = some o → h₂.get? b = some o := fun b o nb q => (hs₂.2 b (fun z => nb (.inl z))).trans (hk b o (fun z => nb (.inl z)) (fun z => nb (.inr z)) q)
  obtain ⟨T, hT, sA⟩ := str_isA g.st
  have a1 : AdvJ w (Duo e it) Nil s Nil { s with heap := h₂, toks := tk + 1 } Nil := AdvJ.of g.inv (fun b h => h.elim (fun h => h ▸ g.oe) fun h => h ▸ g.oi) (fun b o h q => h.elim (fun h => IsA.cls (T := "enumerate") (R := fun _ => True) ⟨_, he, rfl, trivial⟩ (by decide) (h ▸ q)) fun h => sA.cls hT (h ▸ q)) hk2 _ _
  have g2 : GS w L e it y t (i + 1) esc pos ch s₀ { s with heap := h₂, toks := tk + 1 } :=
    ⟨a1.inv, g.ns.move fun o q => hk2 _ o (fun z => z.elim n2 n3) q, ⟨_, he₂⟩, hst.elim fun o p => ⟨o, (hs₂.2 _ n1.symm).trans p.1, p.2⟩, g.adv.trans (a1.mono (fun b h => .inr h) fun _ h => h) (fun b h => .inl h) (fun _ h => .inl h) (fun _ h => h.elim) g.there, g.oL, g.oe, g.oi⟩
  have ht₂ : h₂.get? s.heap.objs.size = some { cls := .type "tuple", data := .seq #[.int i tk, .str ⟨#[c]⟩ u] } := (hs₂.2 _ (Nat.ne_of_gt (Heap.lt_size he))).trans ht
  rw [PyProof.Rows.assign_Tuple]
  refine wpAny_bind (wpAny_standAt ?_)
  show wpAny _ _ (unpack _ _) _ _ _
  unfold unpack
  refine wpAny_bind (wpAny_holding (pair_items (s := { s with heap := h₂, toks := tk + 1 }) hh ⟨_, ht₂, rfl, 0, rfl⟩ g2.inv Nil (fun _ h => h.elim) fun s3 X => ?_))
  exact assignInOrder_cons (PyProof.Rows.assign_Name ((g2.ext X).storePos V fun s4 g4 => assignInOrder_cons (PyProof.Rows.assign_Name (g4.storeCh V fun s5 g5 => assignInOrder_nil ⟨u, g5⟩))))
/-- the signs' iterator at its end: it stays where it is -/
theorem nextOf_strEnd {A : Around} {E : Value → Shared → Prop} {s : Shared} {it : Nat} {y : Str} {t : Tok} {i : Nat} {Q : Value → Shared → Prop} (hh : A.handled = none) (hit : s.heap.IsStrIter it (strIterType y) y t i) (hx : y.cps[i]? = none)
    (hE : ∀ h' x, Heap.ExtBut it s.heap h' → (∃ o, h'.get? it = some o) → (∃ o, h'.get? x = some o ∧ o.cls = .type "StopIteration") → E (.ref x) { s with heap := h' }) : wpAny (model prog w.w) A (Builtin.SmallTypes.nextOf (.ref it)) Q E s := by
  obtain ⟨o, ho, hc, hd⟩ := id hit
  have fin : ∀ {α : Type} {Q' : α → Shared → Prop} {h1 : Heap}, h1 = s.heap.update it (Obj.mapFields fun vs => vs.setIfInBounds 0 .none) → wpAny (model prog w.w) A.in1 (newExc (.type "StopIteration") [] >>= fun x => raiseNew x : Sem α) Q' E { s with heap := h1 } := fun {α Q' h1} e => by
    subst e
    have hthere : ∃ o', (s.heap.update it (Obj.mapFields fun vs => vs.setIfInBounds 0 .none)).get? it = some o' :=
      ⟨_, Heap.get?_update_self _ ho (Obj.isFreed_of_fields (Obj.data_mapFields hd _))⟩
    refine wpAny_bind ?_
    simp only [newExc, newTuple]
    refine wpAny_bind (wpAny_newObj_type ?_ (by size_fits))
    refine wpAny_bind (m := firstArgMember _ _) (wpAny_of_eq (a := Value.none) (by first | rfl | (simp only [firstArgMember]; rfl)) ?_)
    refine wpAny_newObj_type ?_ (by size_fits)
    simp only [raiseNew]
    refine wpAny_bind (wpAny_handled ?_)
    rw [show A.in1.handled = none from hh]
    refine wpAny_bind (wpAny_pure (wpAny_throw ?_))
    obtain ⟨o', ho'⟩ := hthere
    exact hE _ _ (((Heap.SameBut.update ..).extBut.push _).push _) ⟨o', Heap.get?_push_of_some _ (Heap.get?_push_of_some _ ho')⟩ ⟨_, Heap.get?_push_size _ rfl, rfl⟩
  unfold strIterType at hit hc
  unfold Builtin.SmallTypes.nextOf
  split at hit
  · refine wpAny_bind (wpAny_callSpecial?_slot (name := Str.ofString "__next__") hit.typeIs F.slot_str_ascii_iterator_next (wpAny_call_entry F.slot_str_ascii_iterator_next hit.typeIs F.entry_str_ascii_iterator_next ?_ (F.args_str_ascii_iterator_next_1 _)))
    show wpAny _ _ (field (.ref it) 0 >>= _) _ _ s
    refine wpAny_bind (wpAny_field ho hd (x := .str y t) rfl ?_)
    show wpAny _ _ (field (.ref it) 1 >>= _) _ _ s
    refine wpAny_bind (wpAny_field ho hd (x := .int i 0) rfl ?_)
    simp only [Int.toNat_natCast, hx]
    refine wpAny_bind (wpAny_rule (wpAny_bind (wpAny_setField ho hd (by simp) (wpAny_bind (wpAny_letGo ?_)))))
    exact fin rfl
  · refine wpAny_bind (wpAny_callSpecial?_slot (name := Str.ofString "__next__") hit.typeIs F.slot_str_iterator_next (wpAny_call_entry F.slot_str_iterator_next hit.typeIs F.entry_str_iterator_next ?_ (F.args_str_iterator_next_1 _)))
    show wpAny _ _ (field (.ref it) 0 >>= _) _ _ s
    refine wpAny_bind (wpAny_field ho hd (x := .str y t) rfl ?_)
    show wpAny _ _ (field (.ref it) 1 >>= _) _ _ s
    refine wpAny_bind (wpAny_field ho hd (x := .int i 0) rfl ?_)
    simp only [Int.toNat_natCast, hx]
    refine wpAny_bind (wpAny_rule (wpAny_bind (wpAny_setField ho hd (by simp) (wpAny_bind (wpAny_letGo ?_)))))
    exact fin rfl
theorem enum_strEnd {A : Around} {E : Value → Shared → Prop} {s : Shared} {e it : Nat} {y : Str} {t : Tok} {i : Nat} {j : Int} {old : Value} {Q : Option Value → Shared → Prop} (hh : A.handled = none) (he : IsEnum s.heap e it j old) (hit : s.heap.IsStrIter it (strIterType y) y t i) (hx : y.cps[i]? = none)
    (hQ : ∀ h', Heap.ExtBut it s.heap h' → (∃ o, h'.get? it = some o) → Q none { s with heap := h' }) : wpAny (model prog w.w) A (pyNext (.ref e)) Q E s := by
  have hT : s.TypeIs (.ref e) "enumerate" := ⟨_, he, rfl⟩
  unfold pyNext
  refine wpAny_bind (wpAny_attempt (wpAny_callSpecial?_slot (name := Str.ofString "__next__") hT F.slot_enumerate_next (wpAny_call_entry F.slot_enumerate_next hT F.entry_enumerate_next ?_ (F.args_enumerate_next_1 _))))
  show wpAny _ _ (field (.ref e) 2 >>= _) _ _ _
  refine wpAny_bind (wpAny_field he rfl (x := .ref it) rfl ?_)
  refine wpAny_bind (nextOf_strEnd (A := A.in1) hh hit hx fun h' x a b c => ?_)
  obtain ⟨o, ho, hc⟩ := c
  refine wpAny_bind (wpAny_isInstance (T := "StopIteration") (b := true) ⟨o, ho, hc⟩ isSubtype_stop ?_)
  exact wpAny_pure (hQ _ a b)
inductive GEnd (w : Wd) (L e it : Nat) (esc : Bool) (pos : Nat) (s₀ s' : Shared) : Prop
  | mk (inv : Inv w s') (adv : AdvJ w (J3 L e it) Nil s₀ Nil s' Nil) (m : Str → Option Value) (hn : s'.heap.Ns L m) (u : Tok) (hp : m "pos" = some (.int pos u)) (he : m "escape" = some (.bool esc)) (t : Th (J3 L e it) s')
theorem GS.drawn (g : GS w L e it y t i esc pos ch s₀ s) (hh : A.handled = none) (hi : i = y.cps.size) {Q : Option Value → Shared → Prop} (h : ∀ s', GEnd w L e it esc pos s₀ s' → Q none s') : wpAny (MM w) A (pyNext (.ref e)) Q E s := by
  obtain ⟨n1, n2, n3⟩ := g.ne
  obtain ⟨old, he⟩ := g.en
  subst hi
  refine enum_strEnd hh he g.st (Array.getElem?_eq_none (Nat.le_refl _)) fun h' hs hthere => ?_
  obtain ⟨T, hT, sA⟩ := str_isA g.st
  have a1 : AdvJ w (One it) Nil s Nil { s with heap := h', toks := s.toks } Nil := AdvJ.one g.inv (fun b h => ⟨fun h => h, h ▸ g.oi, h ▸ sA.there⟩) sA hT hs _ _
  obtain ⟨m, hn, b1, u, b2, b3, b4⟩ := g.ns
  obtain ⟨oL, _, _, eL, _⟩ := ns_data hn
  exact h _ ⟨a1.inv, g.adv.trans a1 (fun b h => .inl (.inr (.inr h))) (fun _ h => .inl h) (fun _ h => h.elim) g.there, m, hn.at fun o q => hs _ o n3 q, u, b2, b3, fun a h => h.elim (fun h => h ▸ ⟨oL, hs _ _ n3 eL⟩) fun h => h.elim (fun h => h ▸ ⟨_, hs _ _ n1 he⟩) fun h => h ▸ hthere⟩
end
end Mine
end

noncomputable section
--# Lb30
namespace Mine
open PySem PySem.W PyProof.Rows PySem.Calls

/-- what the escaping generator yields of the signs from the i-th on -/
noncomputable def escI : Bool → Nat → List Nat → List (Nat × Str)
  | e, i, [] => if e then [(i - 1, ⟨#[92]⟩)] else []
  | true, i, c :: cs => (i, ⟨#[92, c]⟩) :: escI false (i + 1) cs
  | false, i, c :: cs => if c = 92 then escI true (i + 1) cs else (i, ⟨#[c]⟩) :: escI false (i + 1) cs
noncomputable def dI (p : Nat × Str) : D := .tup [.int p.1, .str p.2]
noncomputable def Suf (all : List D) (l : List (Nat × Str)) : Prop := remD all l.length = l.map dI
theorem Suf.tail {all : List D} {x : Nat × Str} {l : List (Nat × Str)} (h : Suf all (x :: l)) : remD all (l.length + 1) = dI x :: remD all l.length ∧ Suf all l := by
  have h : remD all (l.length + 1) = dI x :: l.map dI := h
  have hlen : l.length + 1 ≤ all.length := by
    have := congrArg List.length h
    simp [remD] at this; omega
  have : remD all l.length = l.map dI := by
    have h2 : (remD all (l.length + 1)).tail = remD all l.length := by
      unfold remD
      rw [List.tail_drop]
      congr 1; omega
    rw [← h2, h]; rfl
  exact ⟨by rw [this]; exact h, this⟩

section
variable {w : Wd} {L e it : Nat} {y : Str} {t : Tok} {env : Env} {A : Around} {all : List D}

/-- the stretch at hand -/
abbrev SegG (w : Wd) (A : Around) (all : List D) (L e it : Nat) (k : Nat) (s₀ : Shared) (code : Code) (d : Sem PySem.Fin) (fs : List Frame) (s : Shared) : Prop := Seg (MM w) A (GR w all (J3 L e it)) (GY w all (J3 L e it)) k s₀ code d fs s
/-- a turn of the loop does what the list says -/
noncomputable def TurnOk (w : Wd) (A : Around) (env : Env) (L e it : Nat) (y : Str) (t : Tok) (all : List D) (code : Code) (body : List Stmt) : Prop :=
  ∀ (i : Nat) (esc : Bool) (c : Nat) (cs : List Nat) (u : Tok) (s₀ s : Shared) (K' : Flow → Sem PySem.Fin) (H' : Value → Sem PySem.Fin) (fs : List Frame), splitAtGen fs = none → fs.any Frame.guarded = false → (A.over code fs).handled = none →
    GS w L e it y t (i + 1) esc i (some (.str ⟨#[c]⟩ u)) s₀ s → Suf all (escI esc i (c :: cs)) →
    (∀ esc' s₀' s', GS w L e it y t (i + 1) esc' i (some (.str ⟨#[c]⟩ u)) s₀' s' → Suf all (escI esc' (i + 1) cs) → SegG w A all L e it (escI esc' (i + 1) cs).length s₀' code (K' .next) fs s') →
    SegG w A all L e it (escI esc i (c :: cs)).length s₀ code ((execs body env).wrap K' H' id id) fs s
/-- behind the loop -/
inductive GDone (w : Wd) (L e it : Nat) (i : Nat) (esc : Bool) (s₀ s' : Shared) : Prop
  | mk (inv : Inv w s') (adv : AdvJ w (J3 L e it) Nil s₀ Nil s' Nil) (m : Str → Option Value) (hn : s'.heap.Ns L m) (hp : esc = true → ∃ u, m "pos" = some (.int ((i - 1 : Nat) : Int) u)) (he : m "escape" = some (.bool esc)) (oJ : ∀ b, J3 L e it b → Own w b) (t : Th (J3 L e it) s')

theorem gen_loop {p1 p2 tp : Pos} {k : Nat} {body : List Stmt} (V : GE env L) (T : TurnOk w A env L e it y t all (.forLoop (.Tuple [.Name "pos" p1, .Name "ch" p2] k tp) (.ref e) body [] env) body)
    {fs : List Frame} (h1 : splitAtGen fs = none) (h2 : fs.any Frame.guarded = false) (hh : (A.over (.forLoop (.Tuple [.Name "pos" p1, .Name "ch" p2] k tp) (.ref e) body [] env) fs).handled = none)
    (hend : ∀ (i : Nat) (esc : Bool) (s₀ s' : Shared), GDone w L e it i esc s₀ s' → Suf all (escI esc i []) → SegG w A all L e it (escI esc i []).length s₀ (.block [] env) (leafOf (.ok .next)) fs s') :
    ∀ (cs : List Nat) (i : Nat) (esc : Bool) (pos : Nat) (ch : Option Value) (s₀ s : Shared), i ≤ y.cps.size → y.cps.toList.drop i = cs → (esc = true → pos = i - 1) → GS w L e it y t i esc pos ch s₀ s → Suf all (escI esc i cs) →
      SegG w A all L e it (escI esc i cs).length s₀ (.forLoop (.Tuple [.Name "pos" p1, .Name "ch" p2] k tp) (.ref e) body [] env) ((MM w).den (.forLoop (.Tuple [.Name "pos" p1, .Name "ch" p2] k tp) (.ref e) body [] env)) fs s := by
  intro cs
  induction cs with
  | nil =>
    intro i esc pos ch s₀ s hle hd hp g hs
    have hlen : y.cps.size ≤ i := List.drop_eq_nil_iff.mp hd
    refine seg_forLoop (g.drawn hh (Nat.le_antisymm hle hlen) fun s' q => ?_)
    obtain ⟨i', a', m, hn, u, b2, b3, ht⟩ := q
    exact seg_blockNil (hend i esc s₀ s' ⟨i', a', m, hn, fun h => ⟨u, hp h ▸ b2⟩, b3, fun b hb => hb.elim (fun h => h ▸ g.oL) fun hb => hb.elim (fun h => h ▸ g.oe) fun h => h ▸ g.oi, ht⟩ hs)
  | cons c cs ih =>
    intro i esc pos ch s₀ s hle hd hp g hs
    obtain ⟨hc, hd'⟩ := drop_cons hd.symm
    have hc : y.cps[i]? = some c := Array.getElem?_toList.symm.trans hc
    refine seg_forLoop (g.draw V hh hc fun v s1 h => wpAny_mono h (fun _ s2 h2' => wpAny_mono h2' (fun _ s3 q => ?_) fun _ _ x => x) fun _ _ x => x)
    obtain ⟨u, g3⟩ := q
    refine T i esc c cs u s₀ s3 _ _ fs h1 h2 hh g3 hs fun esc' s₀' s' g' hs' => ?_
    exact seg_again rfl (ih (i + 1) esc' i _ s₀' s' (Array.getElem?_eq_some_iff.mp hc).1 hd'.symm (fun _ => rfl) g' hs')
end
end Mine
end

noncomputable section
--# Lb31
namespace Mine
open PySem PySem.W PyProof.Rows PySem.Calls

section
variable {w : Wd} {L e it : Nat} {y : Str} {t : Tok} {env : Env} {A : Around} {all : List D}

/-- a pair, new -/
inductive Pair (w : Wd) (s : Shared) (k : Int) (z : Str) (v : Value) (s1 : Shared) : Prop
  | mk (x : Ext w s Nil s1 Nil) (tA : Nat) (u1 u2 : Tok) (e : v = .ref tA) (hn : s.heap.get? tA = none) (ht : IsTup s1.heap tA #[.int k u1, .str z u2])
/-- yield of a pair -/
theorem yield_pair {code : Code} {z : Str} {s₀ s : Shared} {l : List (Nat × Str)} {ee : Expr} {ypos pos : Pos} {K' : Flow → Sem PySem.Fin} {H' : Value → Sem PySem.Fin} {gd : Bool → Bool} {lv : List Value → List Value} {fs : List Frame} {ii : Nat}
    (h1 : splitAtGen fs = none) (h2 : fs.any Frame.guarded = false) (hg : gd false = false) (hco : env.scope.isCoroutine = false) (hint : interactive env = false) (hs : Suf all ((ii, z) :: l))
    (adv : AdvJ w (J3 L e it) Nil s₀ Nil s Nil) (there : Th (J3 L e it) s) (ev : wpAny (MM w) (A.over code fs) (eval ee env) (Pair w s ii z) NoE s)
    (hk : ∀ s₂, Inv w s₂ → KeepsJ (J3 L e it) s s₂ → SegG w A all L e it l.length s₂ code (K' .next) fs s₂) (oJ : ∀ a, J3 L e it a → Own w a) :
    SegG w A all L e it (l.length + 1) s₀ code ((exec (.Expr (.Yield (some ee) ypos) pos) env).wrap K' H' gd lv) fs s := by
  obtain ⟨hr, hs'⟩ := hs.tail
  refine seg_Expr_Yield h1 hg h2 (wpAny_mono ev (fun v s1 p => ?_) fun _ _ x => x.elim) hco hint
  obtain ⟨x1, tA, u1, u2, rfl, hn, ht⟩ := p
  intro kap hkap
  have keepJ : KeepsJ (J3 L e it) s s1 := fun b o hb q => x1.keepOwn (oJ b hb) q
  exact ⟨dI (ii, z), tA, hr, adv.nay there hn, fun hj => (there tA hj).elim fun _ q => nay hn q, ht.elim fun o p => ⟨o, p.1⟩, .tup (vs := [.int ii u1, .str z u2]) rfl ht (.cons (.int ..) (.cons (.str ..) .nil)),
    adv.ext x1 there, fun a ha => (there a ha).elim fun o q => ⟨o, keepJ a o ha q⟩, fun s₂ i₂ k₂ => hkap _ _ (hk s₂ i₂ fun b o hb q => k₂ b o hb (keepJ b o hb q))⟩

/-- (x, z), its tuple new -/
theorem tup_new {s s2 : Shared} {k : Nat} {z : Str} {u1 u2 : Tok} (x : Ext w s Nil s2 Nil) : Pair w s k z (.ref s2.heap.objs.size) { s2 with heap := s2.heap.push { cls := .type "tuple", data := .seq [Value.int k u1, Value.str z u2].toArray } } :=
  ⟨x.trans (Ext.heap x.inv (fun b o e => Heap.get?_push_of_some _ e) s2.toks), s2.heap.objs.size, u1, u2, rfl, x.nay (size_none _), _, Heap.get?_push_size _ rfl, rfl, 0, rfl⟩
end
end Mine
end

noncomputable section
--# Lb32
namespace Mine
open PySem PySem.W PyProof.Rows PySem.Calls

section
variable {w : Wd} {n : Nat}
set_option maxHeartbeats 1000000 in
theorem iter_i {elts : List Expr} {kk : Nat} {p : Pos} {y : Str} {Q : List D → Prop} (hlen : y.length + 1 ≤ sizeLine) (q : Q ((escI false 0 y.cps.toList).map dI)) : CallI w (n + 1) (.Tuple elts kk p) (.fn 70) [.str y] Q := by
  have O : GnOk 70 _ _ "addr" := ⟨fun P => ⟨_, _, _, rfl⟩, rfl, rfl, rfl, rfl, rfl, rfl, rfl, by intro P; kernel_rfl, fun v => rfl, by kernel_rfl, by kernel_rfl⟩
  refine gen_call O q fun A env L t es eg eb el b oL s₀ i₀ hn => ?_
  have hk : ∀ x, env.kindOf x = List.lookup x env.scope.names := fun x => rfl
  rw [es] at hk
  have V : GE env L := ⟨⟨by rw [es], eg, eb⟩, el, by rw [hk]; kernel_rfl, by rw [hk]; kernel_rfl, by rw [hk]; kernel_rfl, by rw [hk]; kernel_rfl, by rw [hk]; kernel_rfl⟩
  have hco : env.scope.isCoroutine = false := by rw [es]
  have hint : interactive env = false := by unfold interactive; rw [es]; rfl
  have hlenA : ((escI false 0 y.cps.toList).map dI).length = (escI false 0 y.cps.toList).length := List.length_map _
  have hsuf : Suf ((escI false 0 y.cps.toList).map dI) (escI false 0 y.cps.toList) := by
    unfold Suf; rw [← hlenA, remD_all]
  rw [hlenA]
  generalize (escI false 0 y.cps.toList).map dI = all at hsuf
  have ne : s₀.heap.get? (s₀.heap.objs.size + 1) = none := Heap.get?_none_of_le (Nat.le_succ _)
  have ni : s₀.heap.get? s₀.heap.objs.size = none := size_none _
  refine ⟨s₀.heap.objs.size + 1, s₀.heap.objs.size, ne, ni, ?_⟩
  generalize hJ : J3 L (s₀.heap.objs.size + 1) s₀.heap.objs.size = Js
  obtain ⟨o0, es0, ep0, eo0, hd0⟩ := ns_data hn
  have nf0 : ∀ vs, o0.data ≠ .fields vs := fun vs q => nomatch hd0.symm.trans q
  refine seg_func ?_
  -- pos = 0
  refine seg_execs_cons (seg_stmt (wpAny_Assign_Name (wpAny_Constant_int (wpAny_storeName_local V.kp (by rw [el]; exact hn) (fun h1 hn1 hs1 => ?_) (by rw [V.st.kind]; rfl)))))
  rw [el] at hn1 hs1
  obtain ⟨o1, es1, ep1, eo1, hd1⟩ := ns_data hn1
  have nf1 : ∀ vs, o1.data ≠ .fields vs := fun vs q => nomatch hd1.symm.trans q
  have a1 : Adv w (One L) s₀ Nil { s₀ with heap := h1, toks := s₀.toks + 1 + 1 } Nil := Adv.modify i₀ oL (show One L L from rfl) eo0 nf0 hs1 eo1 _
  -- escape = False
  refine seg_execs_cons (seg_stmt (wpAny_Assign_Name (Constant_bool (wpAny_storeName_local V.ke (by rw [el]; exact hn1) (fun h2 hn2 hs2 => ?_) (by rw [V.st.kind]; rfl)))))
  rw [el] at hn2 hs2
  obtain ⟨o2, es2, ep2, eo2, hd2⟩ := ns_data hn2
  have a2 : Adv w (One L) { s₀ with heap := h1, toks := s₀.toks + 1 + 1 } Nil { s₀ with heap := h2, toks := s₀.toks + 1 + 1 + 1 } Nil := Adv.modify (s := { s₀ with heap := h1, toks := s₀.toks + 1 + 1 }) a1.inv oL (show One L L from rfl) eo1 nf1 hs2 eo2 _
  have a3 := a1.trans a2 fun b h => .inl h
  have hz : h2.objs.size = s₀.heap.objs.size := hs2.1.trans hs1.1
  -- the loop
  refine seg_execs_cons (seg_For ?_ (fun _ => rfl))
  refine Call_ (wpAny_Name (wp_loadName (w := w) (v := .type "enumerate") a2.inv V.st (VarAt.glo V.kn (.inr ⟨fun P => by kernel_rfl, by kernel_rfl, by decide +kernel⟩)) ?_) (by decide +kernel))
  refine callWith_gen (by rfl) (evalArgs_gen (by rfl) (args_cons (wpAny_Name (wpAny_loadName_local V.st.kind V.ka (by rw [el]; exact hn2) (by show (if (Str.ofString "addr") = _ then _ else if (Str.ofString "addr") = _ then _ else _) = some (Value.str y t); exact ite_no (by decide +kernel) (ite_no (by decide +kernel) rfl)) (wpAny_items_nil ⟨⟨.machine, Looks.of_pure rfl⟩, ?_⟩)) (by decide +kernel))))
  show wpAny _ _ (call (.type "enumerate") [.str y t]) _ _ _
  refine call_enumerate_str fun h3 he hi hsz3 hk3 => ?_
  refine wpAny_pyIter_enum he fun pp => ?_
  simp only [hz] at he hi hsz3 ⊢
  have X3 : Ext w { s₀ with heap := h2, toks := s₀.toks + 1 + 1 + 1 } Nil { s₀ with heap := h3, toks := s₀.toks + 1 + 1 + 1 } Nil := Ext.heap (s := { s₀ with heap := h2, toks := s₀.toks + 1 + 1 + 1 }) a2.inv hk3 _
  have g0 : GS w L (s₀.heap.objs.size + 1) s₀.heap.objs.size y t 0 false 0 none s₀ { s₀ with heap := h3, toks := s₀.toks + 1 + 1 + 1 } := by
    exact ⟨X3.inv, ⟨_, hn2.at fun o e => hk3 _ _ e, ite_no (by decide +kernel) (ite_no (by decide +kernel) rfl), s₀.toks, ite_no (by decide +kernel) (if_pos rfl), if_pos rfl, fun v hv => nomatch hv⟩, ⟨_, he⟩, hi, ((a3.trans X3 fun _ h => h.elim).j Nil).mono (fun b h => .inl h) fun _ h => h, oL, i₀.own ne, i₀.own ni⟩
  subst hJ
  refine gen_loop (A := A.in1) (all := all) (y := y) (t := t) (e := s₀.heap.objs.size + 1) (it := s₀.heap.objs.size) V ?T ?_ ?_ ?_ ?hend y.cps.toList 0 false 0 none s₀ _ (Nat.zero_le _) (by rfl) (fun h => nomatch h) g0 hsuf
  case T =>
    intro i esc c cs u σ₀ s K' H' fs h1 h2 hh g hs rest
    have oJ : ∀ a, J3 L (s₀.heap.objs.size + 1) s₀.heap.objs.size a → Own w a := fun a h => h.elim (fun h => h ▸ g.oL) fun h => h.elim (fun h => h ▸ g.oe) fun h => h ▸ g.oi
    have ch1 : (1 : Nat) + 1 ≤ sizeLine := by decide
    refine seg_execs_cons (seg_If (g.testEsc V ?_))
    cases esc with
    | true =>
      refine yesB rfl ?_
      refine seg_execs_cons (yield_pair (ii := i) (z := ⟨#[92, c]⟩) (l := escI false (i + 1) cs) h1 h2 rfl hco hint hs g.adv g.there ?_ (fun s₂ i₂ k₂ => ?_) oJ)
      · refine wpAny_Tuple (args_cons (g.loadPos V fun u1 => args_cons (wpAny_BinOp (wpAny_Constant_str ?_)) (by rfl)) (by rfl))
        have g1 := g.ext (Ext.toks g.inv (s.toks + 1))
        refine g1.loadCh V (add_str (fun t' tk => wpAny_items_nil ⟨(show 2 ≤ sizeLine by decide), ?_⟩) ch1)
        exact tup_new (Ext.toks g.inv tk)
      · have g2 := g.again i₂ k₂
        refine seg_execs_cons (seg_stmt (wpAny_Assign_Name (Constant_bool (g2.storeEsc V fun s3 g3 => seg_execs_nil (seg_execs_nil ?_)))))
        exact rest false s₂ s3 g3 hs.tail.2
    | false =>
      refine noB rfl ?_
      refine seg_execs_cons (seg_If (wpAny_isTrue_Compare1 (g.loadCh V (wpAny_Constant_str (eq_str (wpAny_truthy_bool ?_))))))
      have g1 := g.ext (Ext.toks g.inv (s.toks + 1))
      by_cases hc : c = 92
      · subst hc
        refine yesB (by rfl) ?_
        have hl : escI false i (92 :: cs) = escI true (i + 1) cs := rfl
        rw [hl] at hs ⊢
        refine seg_execs_cons (seg_stmt (wpAny_Assign_Name (Constant_bool (g1.storeEsc V fun s3 g3 => seg_execs_nil (seg_execs_nil (seg_execs_nil ?_))))))
        exact rest true σ₀ s3 g3 hs
      · have hne : ((⟨#[c]⟩ : Str) == (Str.ofString "\\")) = false := by
          rw [beq_eq_false_iff_ne]
          intro q
          have : (⟨#[c]⟩ : Str) = ⟨#[92]⟩ := q
          injection this with q
          simp at q; exact hc q
        refine noB hne ?_
        have hl : escI false i (c :: cs) = (i, ⟨#[c]⟩) :: escI false (i + 1) cs := if_neg hc
        rw [hl] at hs ⊢
        refine seg_execs_cons (yield_pair (ii := i) (z := ⟨#[c]⟩) (l := escI false (i + 1) cs) h1 h2 rfl hco hint hs g1.adv g1.there ?_ (fun s₂ i₂ k₂ => ?_) oJ)
        · refine wpAny_Tuple (args_cons (g1.loadPos V fun u1 => args_cons (g1.loadCh V (wpAny_items_nil ⟨(show 2 ≤ sizeLine by decide), ?_⟩)) (by rfl)) (by rfl))
          exact tup_new (Adv.refl g1.inv)
        · have g2 := g1.again i₂ k₂
          refine seg_execs_nil (seg_execs_nil (seg_execs_nil ?_))
          exact rest false s₂ s₂ g2 hs.tail.2
  case hend =>
    intro i esc s₀ s' q hs
    obtain ⟨inv, adv, m, hn', hp, he', oJ, hth⟩ := q
    refine seg_leaf (.ok .next) ?_
    show Seg _ _ _ _ _ _ _ (Sem.wrap _ _ _ _ (execs _ env)) [] s'
    refine seg_execs_cons (seg_If (isTrue_plain (wpAny_Name (wpAny_loadName_local V.st.kind V.ke (by rw [V.loc]; exact hn') he' (wpAny_truthy_bool ?_)) (by decide +kernel)) rfl))
    cases esc with
    | false =>
      refine noB rfl ?_
      refine seg_execs_nil (seg_execs_nil ?_)
      exact seg_end (.ok (.ret .none)) ⟨rfl, remD_zero all, adv⟩
    | true =>
      refine yesB rfl ?_
      obtain ⟨u, hp⟩ := hp rfl
      refine seg_execs_cons (yield_pair (ii := i - 1) (z := ⟨#[92]⟩) (l := []) rfl rfl rfl hco hint hs adv hth ?_ (fun s₂ i₂ k₂ => ?_) oJ)
      · refine wpAny_Tuple (args_cons (wpAny_Name (wpAny_loadName_local V.st.kind V.kp (by rw [V.loc]; exact hn') hp (args_cons (wpAny_Constant_str (wpAny_items_nil ⟨(show 2 ≤ sizeLine by decide), ?_⟩)) (by rfl))) (by decide +kernel)) (by rfl))
        exact tup_new (Ext.toks inv _)
      · refine seg_execs_nil (seg_execs_nil ?_)
        exact seg_end (.ok (.ret .none)) ⟨rfl, remD_zero all, Ext.any (Adv.refl i₂) _ _⟩
  · rfl
  · rfl
  · show (marksOver _ (A.in1.handled, _)).1 = none
    simp [marksOver, Frame.marks, markOver]
    exact b.hnd
end
end Mine
end

noncomputable section
--# Lb33
namespace Mine
open PySem PySem.W PyProof.Rows PySem.Calls

/-! what the top's names hold -/
theorem g_DIV_LIMIT : GlobD "_DIV_LIMIT" (.int 4000) := ⟨.int 4000 196, .inl fun P => by kernel_rfl, fun _ _ => .int ..⟩
theorem g_div3n2n : GlobD "_div3n2n" (.fn 35) := ⟨.ref 35, .inl fun P => by kernel_rfl, fun _ _ => .fn _⟩
theorem g_divmod : GlobD "divmod" (.bi "divmod") := ⟨.builtin "divmod", .inr ⟨fun P => by kernel_rfl, by kernel_rfl, by decide +kernel⟩, fun _ _ => .bi _⟩
theorem g_div2n1n : GlobD "_div2n1n" (.fn 28) := ⟨.ref 28, .inl fun P => by kernel_rfl, fun _ _ => .fn _⟩
theorem g_len : GlobD "len" (.bi "len") := ⟨.builtin "len", .inr ⟨fun P => by kernel_rfl, by kernel_rfl, by decide +kernel⟩, fun _ _ => .bi _⟩
theorem g_digits2int : GlobD "_digits2int" (.fn 49) := ⟨.ref 49, .inl fun P => by kernel_rfl, fun _ _ => .fn _⟩
theorem g_int2digits : GlobD "_int2digits" (.fn 42) := ⟨.ref 42, .inl fun P => by kernel_rfl, fun _ _ => .fn _⟩
theorem g_reversed : GlobD "reversed" (.ty "reversed") := ⟨.type "reversed", .inr ⟨fun P => by kernel_rfl, by kernel_rfl, by decide +kernel⟩, fun _ _ => .ty _⟩
theorem g_divmod_pos : GlobD "_divmod_pos" (.fn 56) := ⟨.ref 56, .inl fun P => by kernel_rfl, fun _ _ => .fn _⟩
theorem g_int_divmod : GlobD "int_divmod" (.fn 63) := ⟨.ref 63, .inl fun P => by kernel_rfl, fun _ _ => .fn _⟩
theorem g_iter_escaped_chars : GlobD "_iter_escaped_chars" (.fn 70) := ⟨.ref 70, .inl fun P => by kernel_rfl, fun _ _ => .fn _⟩
theorem g_strip_quoted_realnames : GlobD "_strip_quoted_realnames" (.fn 77) := ⟨.ref 77, .inl fun P => by kernel_rfl, fun _ _ => .fn _⟩
theorem g_Whitespace : GlobD "Whitespace" (.fn 146) := ⟨.ref 146, .inl fun P => by kernel_rfl, fun _ _ => .fn _⟩
theorem g_tuple : GlobD "tuple" (.ty "tuple") := ⟨.type "tuple", .inr ⟨fun P => by kernel_rfl, by kernel_rfl, by decide +kernel⟩, fun _ _ => .ty _⟩
theorem g_max : GlobD "max" (.bi "max") := ⟨.builtin "max", .inr ⟨fun P => by kernel_rfl, by kernel_rfl, by decide +kernel⟩, fun _ _ => .bi _⟩
theorem g_range : GlobD "range" (.ty "range") := ⟨.type "range", .inr ⟨fun P => by kernel_rfl, by kernel_rfl, by decide +kernel⟩, fun _ _ => .ty _⟩
theorem g_ENDMARKER : GlobD "ENDMARKER" (.int 0) := ⟨.int 0 414, .inl fun P => by kernel_rfl, fun _ _ => .int ..⟩
theorem g_sum : GlobD "sum" (.bi "sum") := ⟨.builtin "sum", .inr ⟨fun P => by kernel_rfl, by kernel_rfl, by decide +kernel⟩, fun _ _ => .bi _⟩
theorem g_law_further : GlobD "_law_further" (.fn 177) := ⟨.ref 177, .inl fun P => by kernel_rfl, fun _ _ => .fn _⟩
theorem g_law_ways : GlobD "_law_ways" (.fn 184) := ⟨.ref 184, .inl fun P => by kernel_rfl, fun _ _ => .fn _⟩
theorem g_law_last : GlobD "_law_last" (.fn 191) := ⟨.ref 191, .inl fun P => by kernel_rfl, fun _ _ => .fn _⟩
theorem g_law_text : GlobD "_law_text" (.fn 196) := ⟨.ref 196, .inl fun P => by kernel_rfl, fun _ _ => .fn _⟩
theorem g_EXACT_TOKEN_TYPES : GlobD "EXACT_TOKEN_TYPES" (.fn 151) := ⟨.ref 151, .inl fun P => by kernel_rfl, fun _ _ => .fn _⟩
theorem g_law_over : GlobD "_law_over" (.fn 217) := ⟨.ref 217, .inl fun P => by kernel_rfl, fun _ _ => .fn _⟩
theorem g_check_parenthesis : GlobD "_check_parenthesis" (.fn 84) := ⟨.ref 84, .inl fun P => by kernel_rfl, fun _ _ => .fn _⟩
theorem g_law_by_text : GlobD "_law_by_text" (.fn 229) := ⟨.ref 229, .inl fun P => by kernel_rfl, fun _ _ => .fn _⟩
theorem g_law_sign_at : GlobD "_law_sign_at" (.fn 210) := ⟨.ref 210, .inl fun P => by kernel_rfl, fun _ _ => .fn _⟩
theorem g_ISEOF : GlobD "ISEOF" (.fn 160) := ⟨.ref 160, .inl fun P => by kernel_rfl, fun _ _ => .fn _⟩
theorem g_law_by_page : GlobD "_law_by_page" (.fn 222) := ⟨.ref 222, .inl fun P => by kernel_rfl, fun _ _ => .fn _⟩
theorem g_law_columns : GlobD "_law_columns" (.fn 203) := ⟨.ref 203, .inl fun P => by kernel_rfl, fun _ _ => .fn _⟩
theorem g_law_signs : GlobD "_law_signs" (.fn 167) := ⟨.ref 167, .inl fun P => by kernel_rfl, fun _ _ => .fn _⟩
theorem g_law_table : GlobD "_law_table" (.fn 172) := ⟨.ref 172, .inl fun P => by kernel_rfl, fun _ _ => .fn _⟩
theorem g_enumerate : GlobD "enumerate" (.ty "enumerate") := ⟨.type "enumerate", .inr ⟨fun P => by kernel_rfl, by kernel_rfl, by decide +kernel⟩, fun _ _ => .ty _⟩
theorem g_min : GlobD "min" (.bi "min") := ⟨.builtin "min", .inr ⟨fun P => by kernel_rfl, by kernel_rfl, by decide +kernel⟩, fun _ _ => .bi _⟩
theorem g_sorted : GlobD "sorted" (.bi "sorted") := ⟨.builtin "sorted", .inr ⟨fun P => by kernel_rfl, by kernel_rfl, by decide +kernel⟩, fun _ _ => .bi _⟩
end Mine
end

noncomputable section
--# Lb34
namespace Mine
open PySem PySem.W PyProof.Rows PySem.Calls

/-- a Whitespace: its text, signs, tabs, the counts before tabs and the spaces behind -/
structure Ws where
  raw : Str
  n : Int
  nt : Int
  cnt : List Int
  tl : Int
noncomputable def Ws.d (x : Ws) : D := .inst [("is_simple", .bool (decide (x.cnt.length ≤ 1))), ("norm", normD x.cnt x.tl), ("nt", .int x.nt), ("n", .int x.n), ("raw", .str x.raw)]

section
variable {w : Wd} {n : Nat} {sc : Scope} {κ : Env2} {ρ : Rho}
abbrev kWs (x : Ws) (q : Prop) (d : D) : Prop := d = x.d ∧ q
theorem fld {value : Expr} {f : Str} {pos : Pos} {x : Ws} {d : D} {Q : D → Prop} (hm : ∃ fs, x.d = .inst fs ∧ (f, d) ∈ fs) (hb : ∀ id, d ≠ .bi id) (hf : ∀ P, findIn (KK P) (.ref 146) f = some none) (h : EV w n sc κ ρ value (kWs x (Q d)))
    (he : ∀ env, eval (.Attribute value f pos) env = (do
      let o ← eval value env
      standAt pos.atName
      let r ← holding [o] (getAttr o f true)
      letTemporaryGo value o r
      pure r)) : EV w n sc κ ρ (.Attribute value f pos) Q :=
  EV.fld (h.mono fun _ p => hm.elim fun fs q => ⟨fs, d, p.1.trans q.1, q.2, hb, p.2⟩) hf he
theorem fld_norm {value : Expr} {pos : Pos} {x : Ws} {Q : D → Prop} (h : EV w n sc κ ρ value (kWs x (Q (normD x.cnt x.tl))))
    (he : ∀ env, eval (.Attribute value "norm" pos) env = (do
      let o ← eval value env
      standAt pos.atName
      let r ← holding [o] (getAttr o "norm" true)
      letTemporaryGo value o r
      pure r) := by intro _; rfl) : EV w n sc κ ρ (.Attribute value "norm" pos) Q :=
  fld ⟨_, rfl, .tail _ (.head _)⟩ (fun _ => D.noConfusion) (fun P => by kernel_rfl) h he
theorem fld_nt {value : Expr} {pos : Pos} {x : Ws} {Q : D → Prop} (h : EV w n sc κ ρ value (kWs x (Q (.int x.nt))))
    (he : ∀ env, eval (.Attribute value "nt" pos) env = (do
      let o ← eval value env
      standAt pos.atName
      let r ← holding [o] (getAttr o "nt" true)
      letTemporaryGo value o r
      pure r) := by intro _; rfl) : EV w n sc κ ρ (.Attribute value "nt" pos) Q :=
  fld ⟨_, rfl, .tail _ (.tail _ (.head _))⟩ (fun _ => D.noConfusion) (fun P => by kernel_rfl) h he
theorem fld_n {value : Expr} {pos : Pos} {x : Ws} {Q : D → Prop} (h : EV w n sc κ ρ value (kWs x (Q (.int x.n))))
    (he : ∀ env, eval (.Attribute value "n" pos) env = (do
      let o ← eval value env
      standAt pos.atName
      let r ← holding [o] (getAttr o "n" true)
      letTemporaryGo value o r
      pure r) := by intro _; rfl) : EV w n sc κ ρ (.Attribute value "n" pos) Q :=
  fld ⟨_, rfl, .tail _ (.tail _ (.tail _ (.head _)))⟩ (fun _ => D.noConfusion) (fun P => by kernel_rfl) h he
theorem fld_simple {value : Expr} {pos : Pos} {x : Ws} {Q : D → Prop} (h : EV w n sc κ ρ value (kWs x (Q (.bool (decide (x.cnt.length ≤ 1))))))
    (he : ∀ env, eval (.Attribute value "is_simple" pos) env = (do
      let o ← eval value env
      standAt pos.atName
      let r ← holding [o] (getAttr o "is_simple" true)
      letTemporaryGo value o r
      pure r) := by intro _; rfl) : EV w n sc κ ρ (.Attribute value "is_simple" pos) Q :=
  fld ⟨_, rfl, .head _⟩ (fun _ => D.noConfusion) (fun P => by kernel_rfl) h he

theorem f_iseof {x : Int} : CallOk w (n + 1) (.fn 160) [.int x] (fun d => d = .bool (decide (x = 0))) := by
  have O : FnOk 160 _ _ ["x"] [] [("ENDMARKER", .int 0)] := ⟨fun P => ⟨_, _, _, rfl⟩, rfl, rfl, rfl, rfl, rfl, rfl, rfl, by intro P; kernel_rfl, all1 (fun a => rfl), by decide +kernel, by kernel_rfl, (fall ⟨by kernel_rfl, g_ENDMARKER⟩ <| fall_nil)⟩
  refine CallOk.fn O rfl (SVs.cons (SV.ret (EV.cmp (EV.var (.head _) (EV.con (.head _) ?_)))))
  exact eq_i rfl

theorem f_equal {x y : Ws} : CallOk w (n + 2) (.fn 122) [x.d, y.d] (fun d => d = .bool (decide (x.cnt = y.cnt ∧ x.tl = y.tl))) := by
  have O : FnOk 122 _ _ ["self", "other"] [] [] := ⟨fun P => ⟨_, _, _, rfl⟩, rfl, rfl, rfl, rfl, rfl, rfl, rfl, by intro P; kernel_rfl, all2 (fun a b => rfl), by decide +kernel, by kernel_rfl, fun x d h => nomatch h⟩
  refine CallOk.fn O rfl (SVs.cons (SV.ret (EV.cmp (fld_norm (x := x) (EV.var (.head _) ⟨rfl, fld_norm (x := y) (EV.var (.tail _ (.head _)) ⟨rfl, ?_⟩)⟩)))))
  exact eq_norm rfl
end
end Mine
end

noncomputable section
--# Lb35
namespace Mine
open PySem PySem.W PyProof.Rows PySem.Calls

section
variable {w : Wd} {n : Nat}
theorem f_longest {x : Ws} (hl : x.cnt.length ≤ sizeLine) : CallOk w (n + 1) (.fn 108) [x.d] (fun d => d = .int (max ((x.cnt.length : Int) - 1) x.tl)) := by
  have O : FnOk 108 _ _ ["self"] ["count", "trailing"] [("len", .bi "len"), ("max", .bi "max")] := ⟨fun P => ⟨_, _, _, rfl⟩, rfl, rfl, rfl, rfl, rfl, rfl, rfl, by intro P; kernel_rfl, all1 (fun a => rfl), by decide +kernel, by kernel_rfl, (fall ⟨by kernel_rfl, g_len⟩ <| fall ⟨by kernel_rfl, g_max⟩ <| fall_nil)⟩
  refine CallOk.fn O rfl (SVs.cons (SV.asg2 (fld_norm (x := x) (EV.var (.head _) ⟨rfl, ?_⟩))))
  refine ⟨_, _, rfl, _, _, .skip .hit, .skip (.skip .hit), ?_⟩
  refine SVs.cons (SV.ret (EV.call (EV.con (.tail _ (.head _)) ⟨KeepOk.bi, ?_⟩)))
  have hl' : (dints x.cnt).length ≤ sizeLine := Nat.le_trans (Nat.le_of_eq (List.length_map _)) hl
  refine EVs.cons (EV.bin (EV.call (EV.con (.head _) ⟨KeepOk.bi, EVs.cons (EV.var (.tail _ (.head _)) (EVs.nil (len_t hl' (EV.cInt (sub_i (EVs.cons (EV.var (.tail _ (.tail _ (.head _))) (EVs.nil (max_2 ?_)))))))))⟩)))
  show D.int _ = D.int _
  rw [show (dints x.cnt).length = x.cnt.length from List.length_map _]
  congr 1
  split <;> omega
end
end Mine
end

noncomputable section
--# Lb36
namespace Mine
open PySem PySem.W PyProof.Rows PySem.Calls

/-- a table of numbers as data -/
noncomputable def drows (t : List (List Int)) : D := .list (t.map fun r => .list (dints r))
section
variable {w : Wd} {n : Nat}
theorem f_last1 {way : List Int} {table : List (List Int)} {signs : List Str} (h1 : way.length ≤ 1) : CallOk w (n + 1) (.fn 191) [.list (dints way), drows table, .list (dstrs signs)] (fun d => d = .str "") := by
  have O : FnOk 191 _ _ ["way", "table", "signs"] [] [("len", .bi "len")] := ⟨fun P => ⟨_, _, _, rfl⟩, rfl, rfl, rfl, rfl, rfl, rfl, rfl, by intro P; kernel_rfl, all3 (fun a b c => rfl), by decide +kernel, by kernel_rfl, (fall ⟨by kernel_rfl, g_len⟩ <| fall_nil)⟩
  have hl : (dints way).length = way.length := List.length_map _
  have hs : way.length ≤ sizeLine := Nat.le_trans h1 (by decide)
  refine CallOk.fn O rfl (SVs.cons (SV.ret (EV.ife (TV.cmp (EV.call (EV.con (.head _) ⟨KeepOk.bi, EVs.cons (EV.var (.head _) (EVs.nil (len_l (by rw [hl]; exact hs) (EV.cInt (gt_i (tru_b ?_))))))⟩))))))
  exact no (by rw [hl]; omega) (EV.cStr rfl)
end
end Mine
end

noncomputable section
--# Lc1
namespace Mine
open PySem PySem.W PyProof.Rows PySem.Calls

/-- a text from its signs -/
noncomputable def S (l : List Nat) : Str := ⟨l.toArray⟩
theorem S_cps (l : List Nat) : (S l).cps.toList = l := rfl
theorem S_len (l : List Nat) : (S l).length = l.length := by simp [S, Str.length]
theorem S_add (a b : List Nat) : S a ++ S b = S (a ++ b) := by
  show (⟨(S a).cps ++ (S b).cps⟩ : Str) = _
  simp [S]
theorem S_inj {a b : List Nat} : S a = S b ↔ a = b := by
  constructor
  · intro h
    have := congrArg (fun x : Str => x.cps.toList) h
    simpa [S] using this
  · rintro rfl; rfl
theorem S_of (x : Str) : x = S x.cps.toList := by cases x; rfl
theorem S_join : ∀ (ls : List (List Nat)), Txt.join (S []) (ls.map S) = S ls.flatten := by
  intro ls
  unfold Txt.join Builtin.Str.glued
  have key : ∀ (ls : List (List Nat)) (acc : Array Nat), (ls.map S).foldl (fun acc p => acc ++ (S []).cps ++ p.cps) acc = acc ++ ls.flatten.toArray := by
    intro ls
    induction ls with
    | nil => intro acc; simp
    | cons a ls ih =>
      intro acc
      rw [List.map_cons, List.foldl_cons, ih]; simp [S]
  cases ls with
  | nil => rfl
  | cons a ls =>
    simp only [List.map_cons, List.drop_one, List.tail_cons, List.headD_cons]
    rw [key]
    simp [S]
theorem S_mul (l : List Nat) (k : Int) : Txt.mul (S l) k = S (List.replicate k.toNat l).flatten := by
  unfold Txt.mul
  have key : ∀ (m : Nat) (acc : Array Nat), (List.replicate m (S l).cps).foldl (· ++ ·) acc = acc ++ (List.replicate m l).flatten.toArray := by
    intro m
    induction m with
    | zero => intro acc; simp
    | succ m ih =>
      intro acc
      rw [List.replicate_succ, List.foldl_cons, ih]; simp [S, List.replicate_succ]
  split
  · have : k.toNat = 0 := by omega
    rw [this]; rfl
  · split
    · rename_i h1 h2
      rcases Bool.or_eq_true_iff.mp h2 with h | h
      · have : k = 1 := by simpa using h
        subst this
        simp
      · have : l = [] := by simpa [S, Str.length] using h
        subst this
        simp
    · rw [key]; simp [S]
theorem clipN (k n : Nat) : max (0 : Int) (min (if (k : Int) < 0 then (k : Int) + n else k) n) = ((min k n : Nat) : Int) := by
  rw [if_neg (Int.not_lt.mpr (Int.natCast_nonneg k))]
  omega
theorem sliceIdx (a b n : Nat) : Builtin.Str.strSliceIndices (some (a : Int)) (some (b : Int)) 1 n = sliceRange ((min a n : Nat) : Int) ((min b n : Nat) : Int) 1 := by
  show sliceRange (max (0 : Int) (min (if (a : Int) < 0 then (a : Int) + n else a) n)) (max (0 : Int) (min (if (b : Int) < 0 then (b : Int) + n else b) n)) 1 = _
  rw [clipN, clipN]
theorem slice_clip (x : Str) (a b : Nat) : Txt.slice x (some (a : Int)) (some (b : Int)) = Txt.slice x (some ((min a x.length : Nat) : Int)) (some ((min b x.length : Nat) : Int)) := by
  unfold Txt.slice
  rw [sliceIdx, sliceIdx, Nat.min_eq_left (Nat.min_le_right a _), Nat.min_eq_left (Nat.min_le_right b _)]
theorem slice_core (l : List Nat) (a b : Nat) : Txt.slice (S l) (some (a : Int)) (some (b : Int)) = S ((l.drop a).take (b - a)) := by
  by_cases h : min a (S l).length ≤ min b (S l).length
  · rw [slice_clip]
    refine (StrLaws.sliceText_nat (S l) h (Nat.min_le_right _ _)).trans (congrArg S ?_)
    show (l.drop _).take _ = _
    rw [S_len]
    by_cases ha : a ≤ l.length
    · rw [Nat.min_eq_left ha]
      by_cases hb : b ≤ l.length
      · rw [Nat.min_eq_left hb]
      · rw [Nat.min_eq_right (by omega), List.take_of_length_le (by rw [List.length_drop]; exact Nat.le_refl _), List.take_of_length_le (by rw [List.length_drop]; omega)]
    · rw [List.drop_of_length_le (i := min a l.length) (by omega), List.drop_of_length_le (i := a) (by omega), List.take_nil, List.take_nil]
  · have hab : b - a = 0 := by omega
    have e : sliceRange ((min a (S l).length : Nat) : Int) ((min b (S l).length : Nat) : Int) 1 = [] := by
      unfold sliceRange
      rw [if_pos (by decide), if_neg (by omega)]
      rfl
    have hz : (S l).length ≠ 0 := by omega
    rw [hab, List.take_zero]
    unfold Txt.slice
    rw [sliceIdx, e, if_neg (by
      rw [List.length_nil, beq_self_eq_true, Bool.true_and, beq_iff_eq]
      exact hz.symm)]
    rfl
theorem S_slice (l : List Nat) {a b : Int} (ha : 0 ≤ a) (hb : 0 ≤ b) : Txt.slice (S l) (some a) (some b) = S ((l.drop a.toNat).take (b.toNat - a.toNat)) := by
  have h := slice_core l a.toNat b.toNat
  rwa [Int.toNat_of_nonneg ha, Int.toNat_of_nonneg hb] at h
theorem S_sliceTo (l : List Nat) {a : Int} (ha : 0 ≤ a) : Txt.slice (S l) (some a) none = S (l.drop a.toNat) := by
  have e : Txt.slice (S l) (some a) none = Txt.slice (S l) (some a) (some ((S l).length : Int)) := by
    unfold Txt.slice
    rw [StrLaws.sliceIdx_none_hi]
  rw [e, S_slice l ha (Int.natCast_nonneg _), S_len, List.take_of_length_le (by rw [List.length_drop]; exact Nat.le_refl _)]
theorem S_at (l : List Nat) (i : Nat) : (S l).cps[i]? = l[i]? := by simp [S]
theorem not_in_one (l : List Nat) (c : Nat) : (!(!(Builtin.Str.occurrences (S l) (S [c]) 0 (S l).length 1).isEmpty)) = decide (c ∉ l) := by
  have := StrLaws.found_one (S l) c
  show (!(!(Builtin.Str.occurrences (S l) ⟨#[c]⟩ 0 (S l).length 1).isEmpty)) = _
  rw [this]
  show (!decide (c ∈ l)) = _
  by_cases h : c ∈ l <;> simp [h]
noncomputable def dchars (ls : List (List Nat)) : List D := ls.map fun l => .str (S l)
theorem dchars_eq (ls : List (List Nat)) : dchars ls = dstrs (ls.map S) := by simp [dchars, dstrs]
end Mine
end

noncomputable section
--# Lc2
namespace Mine
open PySem PySem.W PyProof.Rows PySem.Calls

section
variable {w : Wd} {n : Nat} {sc : Scope} {κ : Env2} {ρ : Rho}
theorem TV.mono {e : Expr} {Q Q' : Bool → Prop} (h : TV w n sc κ ρ e Q) (q : ∀ d, Q d → Q' d) : TV w n sc κ ρ e Q' :=
  ⟨fun A env G s hs b f R => wpAny_mono (h.run A env G s hs b f R) (fun _ _ p => p.elim fun G' p x => ⟨G', q _ p, x⟩) fun _ _ x => x⟩
theorem TV.to {e : Expr} {b : Bool} {Q : Bool → Prop} (h : TV w n sc κ ρ e (kEqB b)) (q : Q b) : TV w n sc κ ρ e Q := h.mono fun _ e => e ▸ q
/-- the post of a statement at a meeting place -/
noncomputable def kJoin (J : Rho → Prop) (K : Fl → Rho → Prop) : Fl → Rho → Prop
  | .next, ρ => J ρ
  | .brk, ρ => K .brk ρ
  | .cont, ρ => K .cont ρ
  | .ret d, ρ => K (.ret d) ρ
theorem SVs.join {st : Stmt} {rest : List Stmt} {K : Fl → Rho → Prop} (J : Rho → Prop) (h : SV w n sc κ ρ st (kJoin J K)) (k : ∀ ρ', J ρ' → SVs w n sc κ ρ' rest K) : SVs w n sc κ ρ (st :: rest) K :=
  SVs.cons (h.mono fun f ρ' => Fl.casesOn (motive := fun f => kJoin J K f ρ' → kSeq w n sc κ rest K f ρ') f (k ρ') id id fun _ => id)
theorem sz (k : Nat) (h : k ≤ 1000 := by decide) : k ≤ sizeLine := Nat.le_trans h (by decide)
/-- a comprehension of one clause half done -/
inductive Mid {α : Type} (xs : List α) (inj : α → D) (out : List α → List D) (Fr : Rho → Prop) (ds : List D) (ρ : Rho) (acc : List D) : Prop
  | mk (done rest : List α) (hx : xs = done ++ rest) (hd : ds = rest.map inj) (ha : acc = out done) (fr : Fr ρ)
inductive kGo (w : Wd) (n : Nat) (sc : Scope) (κ : Env2) (ρ : Rho) (tgt : Expr) (d : D) (ifs : List Expr) (elt : Expr) (acc acc' : List D) (Fr : Rho → Prop) : Prop
  | mk (ρ1 : Rho) (fr : Fr ρ1) (a : AS w n sc κ ρ tgt d ρ1) (h : ∀ J : Rho → List D → Prop, J ρ1 acc' → Tests w n sc κ ρ1 ifs (kIte (EM w n sc κ (eltS elt) ρ1 acc J) (J ρ1 acc)))
theorem CB.gen {α : Type} {inj : α → D} {xs : List α} {tgt elt iter : Expr} {ifs : List Expr} {csc : Scope} {pos : Pos} {Q : List D → Prop} (out : List α → List D) (Fr : Rho → Prop) (i0 : Fr ρ) (h0 : out [] = [])
    (h : ∀ done a rest ρ, xs = done ++ a :: rest → Fr ρ → kGo w n sc κ ρ tgt (inj a) ifs elt (out done) (out (done ++ [a])) Fr) (q : Q (out xs)) : CB w n sc κ ρ elt [⟨tgt, iter, ifs, 0⟩] csc pos tgt (xs.map inj) Q := by
  refine CB.one (Mid xs inj out Fr) ⟨[], xs, rfl, rfl, h0.symm, i0⟩ (fun d ds ρ acc m => ?_) fun ρ acc m => ?_
  · obtain ⟨done, rest, hx, hd, rfl, fr⟩ := m
    cases rest with
    | nil => cases hd
    | cons a rest =>
      obtain ⟨rfl, rfl⟩ := List.cons.inj hd
      obtain ⟨ρ1, fr1, as, g⟩ := h done a rest ρ hx fr
      exact ⟨ρ1, as, g _ ⟨done ++ [a], rest, by rw [hx, List.append_assoc]; rfl, rfl, rfl, fr1⟩⟩
  · obtain ⟨done, rest, hx, hd, rfl, fr⟩ := m
    obtain rfl := List.map_eq_nil_iff.mp hd.symm
    rw [List.append_nil] at hx
    exact hx ▸ q
/-- a loop over a list, what is done and what is to come -/
abbrev kOver {α : Type} (inj : α → D) (xs : List α) (p : Prop) (ds : List D) : Prop := ds = xs.map inj ∧ p
inductive kTurnM (w : Wd) (n : Nat) (sc : Scope) (κ : Env2) (tgt : Expr) (body : List Stmt) (d : D) (J : Rho → Prop) (K : Fl → Rho → Prop) (ρ : Rho) : Prop
  | mk (ρ1 : Rho) (a : AS w n sc κ ρ tgt d ρ1) (h : SVs w n sc κ ρ1 body (kLoop J K))
inductive Over {α : Type} (inj : α → D) (xs : List α) (I : List α → List α → Rho → Prop) (ds : List D) (ρ : Rho) : Prop
  | mk (done rest : List α) (hx : xs = done ++ rest) (hd : ds = rest.map inj) (i : I done rest ρ)
theorem Over.turn {α : Type} {inj : α → D} {xs : List α} {tgt : Expr} {body : List Stmt} {K : Fl → Rho → Prop} {I : List α → List α → Rho → Prop} (hI : ∀ done a rest ρ, xs = done ++ a :: rest → I done (a :: rest) ρ → kTurnM w n sc κ tgt body (inj a) (I (done ++ [a]) rest) K ρ) :
    ∀ d ds ρ, Over inj xs I (d :: ds) ρ → kTurn w n sc κ tgt body (Over inj xs I) K d ds ρ := fun d ds ρ m => by
  obtain ⟨done, rest, hx, hd, i⟩ := m
  cases rest with
  | nil => cases hd
  | cons a rest =>
    obtain ⟨rfl, rfl⟩ := List.cons.inj hd
    obtain ⟨ρ1, as, h⟩ := hI done a rest ρ hx i
    exact ⟨ρ1, as, h.mono fun f ρ' => Fl.casesOn (motive := fun f => kLoop (I (done ++ [a]) rest) K f ρ' → kLoop (Over inj xs I (rest.map inj)) K f ρ') f (fun k => ⟨_, _, hx.trans (List.append_cons ..), rfl, k⟩) id (fun k => ⟨_, _, hx.trans (List.append_cons ..), rfl, k⟩) fun _ => id⟩
theorem Over.stop {α : Type} {inj : α → D} {xs : List α} {K : Fl → Rho → Prop} {I : List α → List α → Rho → Prop} (hE : ∀ ρ, I xs [] ρ → K .next ρ) : ∀ ρ, Over inj xs I [] ρ → K .next ρ := fun ρ m => by
  obtain ⟨done, rest, hx, hd, i⟩ := m
  obtain rfl := List.map_eq_nil_iff.mp hd.symm
  rw [List.append_nil] at hx
  exact hE ρ (hx ▸ i)
theorem SV.forM {α : Type} {inj : α → D} {xs : List α} {tgt iter : Expr} {body : List Stmt} {pos : Pos} {K : Fl → Rho → Prop} (I : List α → List α → Rho → Prop) (h : IV w n sc κ (dropMl ρ) tgt iter (kOver inj xs (I [] xs ρ)))
    (hI : ∀ done a rest ρ, xs = done ++ a :: rest → I done (a :: rest) ρ → kTurnM w n sc κ tgt body (inj a) (I (done ++ [a]) rest) K ρ) (hE : ∀ ρ, I xs [] ρ → K .next ρ)
    (hs1 : ∀ env x, foldedSetIterable iter env x = pure x := by intro _ _; rfl) : SV w n sc κ ρ (.For tgt iter body [] pos) K :=
  SV.for (Over inj xs I) ⟨fun A env G s hs b f R => wpAny_mono (h.run A env G s hs b f R) (fun _ _ h => wpAny_mono h (fun _ _ p => by
    obtain ⟨G', ds, J, Jg, P, q, I, P', x, hJ, hg⟩ := p
    exact ⟨G', ds, J, Jg, P, ⟨[], xs, rfl, q.1, q.2⟩, I, P', x, hJ, hg⟩) fun _ _ x => x) fun _ _ x => x⟩ (Over.turn hI) (Over.stop hE) hs1
theorem len_done {α : Type} {xs done rest : List α} {a : α} (hx : xs = done ++ a :: rest) (hl : xs.length ≤ sizeLine) : done.length ≤ sizeLine := by
  rw [hx, List.length_append] at hl
  exact Nat.le_trans (Nat.le_add_right _ _) hl
theorem mem_done {α : Type} {xs done rest : List α} {a : α} (hx : xs = done ++ a :: rest) : a ∈ xs := hx ▸ List.mem_append_right _ (.head _)
inductive Frm1 (x : Str) : Rho → Prop
  | mk (o : Option D) : Frm1 x [(x, .v o)]
inductive Frm2 (x y : Str) : Rho → Prop
  | mk (o u : Option D) : Frm2 x y [(x, .v o), (y, .v u)]
/-- a comprehension of one clause and one name, without a test -/
theorem CB.map1 {α : Type} {inj : α → D} {f : α → D} {xs : List α} {x : Str} {p : Pos} {elt iter : Expr} {csc : Scope} {pos : Pos} {Q : List D → Prop} (hl : xs.length ≤ sizeLine)
    (h : ∀ a ∈ xs, EV w n sc κ [(x, .v (some (inj a)))] elt (kEq (f a))) (q : Q (xs.map f)) : CB w n sc κ [(x, .v none)] elt [⟨.Name x p, iter, [], 0⟩] csc pos (.Name x p) (xs.map inj) Q := by
  refine CB.gen (List.map f) (Frm1 x) ⟨_⟩ rfl (fun done a rest ρ hx fr => ?_) q
  cases fr
  exact ⟨_, ⟨_⟩, AS.name .hit, fun J k => by
    rw [List.map_append] at k
    exact EM.elt (Nat.le_trans (Nat.le_of_eq (List.length_map _)) (len_done hx hl)) ((h a (mem_done hx)).mono fun d hd => hd ▸ k)⟩
theorem CB.filt1 {α : Type} {inj : α → D} {f : α → D} {g : α → Bool} {xs : List α} {x : Str} {p : Pos} {elt iter t : Expr} {csc : Scope} {pos : Pos} {Q : List D → Prop} (hl : xs.length ≤ sizeLine)
    (ht : ∀ a ∈ xs, TV w n sc κ [(x, .v (some (inj a)))] t (kEqB (g a))) (h : ∀ a ∈ xs, g a = true → EV w n sc κ [(x, .v (some (inj a)))] elt (kEq (f a))) (q : Q ((xs.filter g).map f)) :
    CB w n sc κ [(x, .v none)] elt [⟨.Name x p, iter, [t], 0⟩] csc pos (.Name x p) (xs.map inj) Q := by
  refine CB.gen (fun l => (l.filter g).map f) (Frm1 x) ⟨_⟩ rfl (fun done a rest ρ hx fr => ?_) q
  cases fr
  refine ⟨_, ⟨_⟩, AS.name .hit, fun J k => TV.to (ht a (mem_done hx)) ?_⟩
  rw [List.filter_append, List.map_append] at k
  cases hg : g a with
  | true =>
    rw [List.filter_cons_of_pos hg] at k
    exact yesB rfl (EM.elt (Nat.le_trans (Nat.le_of_eq (List.length_map _)) (Nat.le_trans (List.length_filter_le _ _) (len_done hx hl))) ((h a (mem_done hx) hg).mono fun d hd => hd ▸ k))
  | false =>
    rw [List.filter_cons_of_neg (hg ▸ Bool.noConfusion), List.filter_nil, List.map_nil, List.append_nil] at k
    exact noB rfl k
/-- two names -/
theorem CB.map2 {α : Type} {i1 i2 : α → D} {f : α → D} {xs : List α} {x1 x2 : Str} {p1 p2 tp : Pos} {k : Nat} {elt iter : Expr} {csc : Scope} {pos : Pos} {Q : List D → Prop} (hx12 : x1 ≠ x2) (hl : xs.length ≤ sizeLine)
    (h : ∀ a ∈ xs, EV w n sc κ [(x1, .v (some (i1 a))), (x2, .v (some (i2 a)))] elt (kEq (f a))) (q : Q (xs.map f)) :
    CB w n sc κ [(x1, .v none), (x2, .v none)] elt [⟨.Tuple [.Name x1 p1, .Name x2 p2] k tp, iter, [], 0⟩] csc pos (.Tuple [.Name x1 p1, .Name x2 p2] k tp) (xs.map fun a => .tup [i1 a, i2 a]) Q := by
  refine CB.gen (inj := fun a => .tup [i1 a, i2 a]) (List.map f) (Frm2 x1 x2) ⟨_, _⟩ rfl (fun done a rest ρ hx fr => ?_) q
  cases fr
  exact ⟨_, ⟨_, _⟩, AS.pair .hit (.skip .hit), fun J k => by
    rw [List.map_append] at k
    exact EM.elt (Nat.le_trans (Nat.le_of_eq (List.length_map _)) (len_done hx hl)) ((h a (mem_done hx)).mono fun d hd => hd ▸ k)⟩
end
end Mine
end

noncomputable section
--# Wb1
namespace Mine
open PySem PySem.W PyProof.Rows PySem.Calls

noncomputable def signL : List (List Nat) := [[91], [93], [58], [44], [59], [43], [45], [42], [47], [124], [38], [60], [62], [61], [46], [37], [123], [125], [61, 61], [33, 61], [60, 61], [62, 61], [126], [94], [60, 60], [62, 62], [42, 42], [43, 61], [45, 61], [42, 61], [47, 61], [37, 61], [38, 61], [124, 61], [94, 61], [60, 60, 61], [62, 62, 61], [42, 42, 61], [47, 47], [47, 47, 61], [64], [64, 61], [45, 62], [46, 46, 46], [58, 61], [33]]
theorem k28 {w : Wd} : KeepOk w (.fn 28) := .fn fun P => by kernel_rfl
theorem k35 {w : Wd} : KeepOk w (.fn 35) := .fn fun P => by kernel_rfl
theorem k42 {w : Wd} : KeepOk w (.fn 42) := .fn fun P => by kernel_rfl
theorem k49 {w : Wd} : KeepOk w (.fn 49) := .fn fun P => by kernel_rfl
theorem k56 {w : Wd} : KeepOk w (.fn 56) := .fn fun P => by kernel_rfl
theorem k63 {w : Wd} : KeepOk w (.fn 63) := .fn fun P => by kernel_rfl
theorem k70 {w : Wd} : KeepOk w (.fn 70) := .fn fun P => by kernel_rfl
theorem k77 {w : Wd} : KeepOk w (.fn 77) := .fn fun P => by kernel_rfl
theorem k84 {w : Wd} : KeepOk w (.fn 84) := .fn fun P => by kernel_rfl
theorem k108 {w : Wd} : KeepOk w (.fn 108) := .fn fun P => by kernel_rfl
theorem k115 {w : Wd} : KeepOk w (.fn 115) := .fn fun P => by kernel_rfl
theorem k122 {w : Wd} : KeepOk w (.fn 122) := .fn fun P => by kernel_rfl
theorem k136 {w : Wd} : KeepOk w (.fn 136) := .fn fun P => by kernel_rfl
theorem k160 {w : Wd} : KeepOk w (.fn 160) := .fn fun P => by kernel_rfl
theorem k167 {w : Wd} : KeepOk w (.fn 167) := .fn fun P => by kernel_rfl
theorem k172 {w : Wd} : KeepOk w (.fn 172) := .fn fun P => by kernel_rfl
theorem k177 {w : Wd} : KeepOk w (.fn 177) := .fn fun P => by kernel_rfl
theorem k184 {w : Wd} : KeepOk w (.fn 184) := .fn fun P => by kernel_rfl
theorem k191 {w : Wd} : KeepOk w (.fn 191) := .fn fun P => by kernel_rfl
theorem k196 {w : Wd} : KeepOk w (.fn 196) := .fn fun P => by kernel_rfl
theorem k203 {w : Wd} : KeepOk w (.fn 203) := .fn fun P => by kernel_rfl
theorem k210 {w : Wd} : KeepOk w (.fn 210) := .fn fun P => by kernel_rfl
theorem k217 {w : Wd} : KeepOk w (.fn 217) := .fn fun P => by kernel_rfl
theorem k222 {w : Wd} : KeepOk w (.fn 222) := .fn fun P => by kernel_rfl
theorem k229 {w : Wd} : KeepOk w (.fn 229) := .fn fun P => by kernel_rfl

section
variable {w : Wd} {n : Nat} {sc : Scope} {κ : Env2} {ρ : Rho}
theorem get_map {α : Type} {f : α → D} {l : List α} {k : Nat} (d : α) (h : k < l.length) : (l.map f)[k]? = some (f (l.getD k d)) := by
  rw [List.getElem?_map, List.getD_eq_getElem?_getD, List.getElem?_eq_getElem h]; rfl
theorem item_i {value slice : Expr} {ns : List Int} {i : Int} {Q : D → Prop} (hi : 0 ≤ i) (hl : i < ns.length) (hf : i < 2 ^ 63) (q : Q (.int (ns.getD i.toNat 0)))
    (hs : ∀ o i, subscripted slice false o i = operate [o, i] (getItem o i) := by intro _ _; rfl) : Op2 w n (subscriptTail value slice) (.list (dints ns)) (.int i) Q :=
  item_l (j := 0) hi hf (get_map (f := D.int) 0 ((Int.toNat_lt hi).mpr hl)) q hs
theorem item_r {value slice : Expr} {t : List (List Int)} {i : Int} {Q : D → Prop} (hi : 0 ≤ i) (hl : i < t.length) (hf : i < 2 ^ 63) (q : Q (.list (dints (t.getD i.toNat []))))
    (hs : ∀ o i, subscripted slice false o i = operate [o, i] (getItem o i) := by intro _ _; rfl) : Op2 w n (subscriptTail value slice) (drows t) (.int i) Q :=
  item_l (j := 0) hi hf (get_map (f := fun r => .list (dints r)) [] ((Int.toNat_lt hi).mpr hl)) q hs
theorem item_last {value slice : Expr} {ns : List Int} {Q : D → Prop} (hl : ns ≠ []) (q : Q (.int (ns.getLastD 0)))
    (hs : ∀ o i, subscripted slice false o i = operate [o, i] (getItem o i) := by intro _ _; rfl) : Op2 w n (subscriptTail value slice) (.list (dints ns)) (.int (-1)) Q := by
  have h0 : 0 < ns.length := List.length_pos_iff.mpr hl
  have hn : (dints ns).length = ns.length := List.length_map _
  refine item_ln (by decide) (by decide) (by omega) (d := .int (ns.getLastD 0)) ?_ q hs
  rw [show (((dints ns).length : Int) + (-1)).toNat = ns.length - 1 by omega, List.getLastD_eq_getLast?, List.getLast?_eq_getElem?, ← List.getD_eq_getElem?_getD]
  exact get_map (f := D.int) 0 (Nat.sub_lt h0 Nat.one_pos)

theorem f_signs : CallOk w (n + 1) (.fn 167) [] (kEq (.list (dchars signL))) := by
  have O : FnOk 167 _ _ [] ["row"] [] := ⟨fun P => ⟨_, _, _, rfl⟩, rfl, rfl, rfl, rfl, rfl, rfl, rfl, by intro P; kernel_rfl, all0 rfl, by decide +kernel, by kernel_rfl, (fall_nil)⟩
  refine CallOk.fn O rfl (SVs.cons (SV.asg (EV.cStr ⟨_, (put 0 rfl), ?_⟩)))
  refine SVs.cons (SV.ret (EV.meth (EV.bin (EV.var (.head _) (EV.cStr (add_s (by decide +kernel) ⟨_, meth_split, KeepOk.bi, EVs.cons (EV.cStr (EVs.nil ?_))⟩))))))
  refine split_ok (by decide +kernel) (by decide +kernel) (by decide +kernel) (by decide +kernel) (by decide +kernel) ?_
  show D.list _ = D.list _
  rw [dchars_eq]
  congr 2
  decide +kernel
end
end Mine
end

noncomputable section
--# Wb2
namespace Mine
open PySem PySem.W PyProof.Rows PySem.Calls

noncomputable def wOf (c : Int) : Int := if c.fmod 2 = 1 then 9 + (c.fdiv 2).fmod 46 else 0
noncomputable def wsM (cells : List Int) : List Int := if (cells.map wOf).sum = 0 then [9 + ((cells.getD 0 0).fdiv 2).fmod 46, 0, 0, 0, 0, 0] else cells.map wOf
noncomputable def tabM (w : List Int) : List (List Int) := [[0, w.getD 0 0, w.getD 1 0, w.getD 3 0], [w.getD 0 0, 0, w.getD 2 0, w.getD 4 0], [w.getD 1 0, w.getD 2 0, 0, w.getD 5 0], [w.getD 3 0, w.getD 4 0, w.getD 5 0, 0]]
noncomputable def corners : List Int := [0, 1, 2, 3]
noncomputable def T (t : List (List Int)) (i j : Int) : Int := (t.getD i.toNat []).getD j.toNat 0
noncomputable def furC (way : List Int) (t : List (List Int)) : List Int := corners.filter fun c => decide (0 < T t (way.getLastD 0) c) && decide (c ∉ way)
noncomputable def furM (way : List Int) (t : List (List Int)) : List (List Int) := (furC way t).map fun c => way ++ [c]
noncomputable def waysM (t : List (List Int)) : Nat → List Int → List (List Int)
  | 0, way => [way]
  | f + 1, way => way :: (furM way t).flatMap (waysM t f)
structure Sq (t : List (List Int)) : Prop where
  len : t.length = 4
  row : ∀ r ∈ t, r.length = 4
theorem Sq.at {t : List (List Int)} (h : Sq t) (i : Nat) (hi : i < 4) : (t.getD i []).length = 4 := by
  have := h.len
  rw [List.getD_eq_getElem?_getD, List.getElem?_eq_getElem (by omega)]
  exact h.row _ (List.getElem_mem _)
noncomputable def WayOk (way : List Int) : Prop := way ≠ [] ∧ ∀ c ∈ way, 0 ≤ c ∧ c < 4
theorem WayOk.last {way : List Int} (h : WayOk way) : 0 ≤ way.getLastD 0 ∧ way.getLastD 0 < 4 := by
  have : way.getLastD 0 ∈ way := by
    rw [List.getLastD_eq_getLast?, List.getLast?_eq_some_getLast h.1]
    exact List.getLast_mem _
  exact h.2 _ this

section
variable {w : Wd} {n : Nat} {sc : Scope} {κ : Env2} {ρ : Rho}
theorem f_table {cells : List Int} (h6 : cells.length = 6) : CallOk w (n + 1) (.fn 172) [.list (dints cells)] (kEq (drows (tabM (wsM cells)))) := by
  have O : FnOk 172 _ _ ["cells"] ["w"] [("sum", .bi "sum")] := ⟨fun P => ⟨_, _, _, rfl⟩, rfl, rfl, rfl, rfl, rfl, rfl, rfl, by intro P; kernel_rfl, all1 (fun a => rfl), by decide +kernel, by kernel_rfl, (fall ⟨by kernel_rfl, g_sum⟩ <| fall_nil)⟩
  have hd6 : ∀ (l : List Int), l.length = 6 → ((dints l).length : Int) = 6 := fun l h => by simp [dints, h]
  refine CallOk.fn O rfl (SVs.cons (SV.asgComp (κc := []) (ρc := [("cell", .v none)]) ⟨rfl, by kernel_rfl, by decide +kernel, by kernel_rfl, by kernel_rfl, by decide +kernel, fun x d h => nomatch h⟩ rfl ?_))
  refine IV.ofD (EV.var (.head _) (IterD.list ?_))
  refine CB.map1 (inj := .int) (f := fun c => .int (wOf c)) (by rw [h6]; decide) (fun c _ => ?_) ?_
  · refine EV.ife (TV.cmp (EV.bin (EV.var (.head _) (EV.cInt (fmod_i (by decide) (EV.cInt (eq_i (tru_b ?_))))))))
    by_cases hc : c.fmod 2 = 1
    · refine yes (hc) ?_
      refine EV.bin (EV.cInt (EV.bin (EV.bin (EV.var (.head _) (EV.cInt (fdiv_i (by decide) (EV.cInt (fmod_i (by decide) (add_i ?_)))))))))
      show D.int _ = _
      simp [wOf, hc]
    · refine no (hc) ?_
      refine EV.cInt ?_
      simp [wOf, hc]
  · have e : cells.map (fun c => D.int (wOf c)) = dints (cells.map wOf) := by simp [dints]
    rw [e]
    refine ⟨_, (put 1 rfl), ?_⟩
    refine SVs.join (fun ρ' => ρ' = ([("cells", .v (some (.list (dints cells)))), ("w", .v (some (.list (dints (wsM cells)))))] : Rho)) ?_ ?_
    refine SV.if <| TV.cmp <| EV.call <| EV.con (.head _) ⟨KeepOk.bi, EVs.cons <| EV.var (ix 1 rfl) <| EVs.nil <| sum_l <| EV.cInt <| eq_i <| tru_b ?_⟩
    by_cases hz : (cells.map wOf).sum = 0
    · refine yes (hz) ?_
      refine SVs.cons <| SV.asg <| EV.ofN <| EN.disp <| EVs.cons <| EV.bin <| EV.cInt <| EV.bin <| EV.bin <| EV.sub <| EV.var (.head _) <| EV.cInt <| item_i (by decide) (by rw [h6]; decide) (by decide) ?_
      refine EV.cInt <| fdiv_i (by decide) <| EV.cInt <| fmod_i (by decide) <| add_i <| EVs.cons <| EV.cInt <| EVs.cons <| EV.cInt <| EVs.cons <| EV.cInt <| EVs.cons <| EV.cInt <| EVs.cons <| EV.cInt <| EVs.nil ⟨sz 6, _, (put 1 rfl), ?_⟩
      refine SVs.nil ?_
      have e2 : wsM cells = [9 + ((cells.getD 0 0).fdiv 2).fmod 46, 0, 0, 0, 0, 0] := by simp [wsM, hz]
      rw [e2]
      rfl
    · refine no (hz) ?_
      refine SVs.nil ?_
      have e2 : wsM cells = cells.map wOf := by simp [wsM, hz]
      rw [e2]
      rfl
    rintro _ rfl
    have hl : (wsM cells).length = 6 := by unfold wsM; split <;> simp [h6]
    generalize wsM cells = wl at hl ⊢
    have it : ∀ {value slice : Expr} {i : Int} {Q : D → Prop}, 0 ≤ i → i < 6 → Q (.int (wl.getD i.toNat 0)) → (∀ o i, subscripted slice false o i = operate [o, i] (getItem o i)) → Op2 w n (subscriptTail value slice) (.list (dints wl)) (.int i) Q :=
      fun h0 h1 q hs => item_i h0 (by omega) (by omega) q hs
    refine SVs.cons (SV.ret (EV.ofN (EN.disp ?_)))
    refine EVs.cons (EV.ofN (EN.disp (EVs.cons (EV.cInt (EVs.cons (EV.sub (EV.var (ix 1 rfl) (EV.cInt (it (by decide) (by decide) ?_ (by intro _ _; rfl))))))))))
    refine EVs.cons (EV.sub (EV.var (ix 1 rfl) (EV.cInt (it (by decide) (by decide) ?_ (by intro _ _; rfl)))))
    refine EVs.cons (EV.sub (EV.var (ix 1 rfl) (EV.cInt (it (by decide) (by decide) (EVs.nil ⟨sz 4, ?_⟩) (by intro _ _; rfl)))))
    refine EVs.cons (EV.ofN (EN.disp (EVs.cons (EV.sub (EV.var (ix 1 rfl) (EV.cInt (it (by decide) (by decide) ?_ (by intro _ _; rfl))))))))
    refine (EVs.cons (EV.cInt (EVs.cons (EV.sub (EV.var (ix 1 rfl) (EV.cInt (it (by decide) (by decide) ?_ (by intro _ _; rfl))))))))
    refine EVs.cons (EV.sub (EV.var (ix 1 rfl) (EV.cInt (it (by decide) (by decide) (EVs.nil ⟨sz 4, ?_⟩) (by intro _ _; rfl)))))
    refine EVs.cons (EV.ofN (EN.disp (EVs.cons (EV.sub (EV.var (ix 1 rfl) (EV.cInt (it (by decide) (by decide) ?_ (by intro _ _; rfl))))))))
    refine EVs.cons (EV.sub (EV.var (ix 1 rfl) (EV.cInt (it (by decide) (by decide) ?_ (by intro _ _; rfl)))))
    refine (EVs.cons (EV.cInt (EVs.cons (EV.sub (EV.var (ix 1 rfl) (EV.cInt (it (by decide) (by decide) (EVs.nil ⟨sz 4, ?_⟩) (by intro _ _; rfl))))))))
    refine EVs.cons (EV.ofN (EN.disp (EVs.cons (EV.sub (EV.var (ix 1 rfl) (EV.cInt (it (by decide) (by decide) ?_ (by intro _ _; rfl))))))))
    refine EVs.cons (EV.sub (EV.var (ix 1 rfl) (EV.cInt (it (by decide) (by decide) ?_ (by intro _ _; rfl)))))
    refine EVs.cons (EV.sub (EV.var (ix 1 rfl) (EV.cInt (it (by decide) (by decide) ?_ (by intro _ _; rfl)))))
    refine (EVs.cons (EV.cInt (EVs.nil ⟨sz 4, EVs.nil ⟨sz 4, ?_⟩⟩)))
    rfl
end
end Mine
end

noncomputable section
--# Wb3
namespace Mine
open PySem PySem.W PyProof.Rows PySem.Calls

section
variable {w : Wd} {n : Nat} {sc : Scope} {κ : Env2} {ρ : Rho}
theorem dints_len (l : List Int) : (dints l).length = l.length := List.length_map _
theorem dints_app (a b : List Int) : dints a ++ dints b = dints (a ++ b) := List.map_append.symm
theorem lt63 {i k : Int} (h : i < k) (hk : k ≤ 2 ^ 63 := by decide) : i < 2 ^ 63 := Int.lt_of_lt_of_le h hk
theorem sqT {t : List (List Int)} (h : Sq t) {i : Int} (h0 : 0 ≤ i) (h1 : i < 4) : (t.getD i.toNat []).length = 4 := h.at _ (by omega)
theorem f_further {way : List Int} {t : List (List Int)} (hw : WayOk way) (hl : way.length ≤ 4) (ht : Sq t) : CallOk w (n + 1) (.fn 177) [.list (dints way), drows t] (kEq (drows (furM way t))) := by
  have O : FnOk 177 _ _ ["way", "table"] [] [("range", .ty "range")] := ⟨fun P => ⟨_, _, _, rfl⟩, rfl, rfl, rfl, rfl, rfl, rfl, rfl, by intro P; kernel_rfl, all2 (fun a b => rfl), by decide +kernel, by kernel_rfl, (fall ⟨by kernel_rfl, g_range⟩ <| fall_nil)⟩
  have hlast := hw.last
  refine CallOk.fn O rfl <| SVs.cons <| SV.ret <| EV.ofN <| EN.comp (κc := [("way", .list (dints way)), ("table", drows t)]) (ρc := [("corner", .v none)]) ⟨rfl, by kernel_rfl, by decide +kernel, by kernel_rfl, by kernel_rfl, by decide +kernel, (fall ⟨by decide +kernel, .cap (by kernel_rfl) (.inl (by kernel_rfl)) (.head _) rfl⟩ <| fall ⟨by decide +kernel, .cap (by kernel_rfl) (.inl (by kernel_rfl)) (ix 1 rfl) rfl⟩ <| fall_nil)⟩ rfl ?_
  refine IV.call <| EV.con (.head _) ⟨KeepOk.ty, EVs.cons <| EV.cInt <| EVs.nil <| range_1 (by decide) (by decide) ?_⟩
  refine CB.filt1 (inj := .int) (xs := corners) (f := fun c => .list (dints (way ++ [c]))) (g := fun c => decide (0 < T t (way.getLastD 0) c) && decide (c ∉ way)) (sz 4) (fun c hc => ?_) (fun c hc _ => ?_) ?_
  · have hc4 : 0 ≤ c ∧ c < 4 := by
      simp [corners] at hc; omega
    refine TV.and <| TV.cmp <| EV.sub <| EV.sub <| EV.con (ix 1 rfl) <| EV.sub <| EV.con (.head _) <| EV.una <| EV.cInt <| neg_i <| item_last hw.1 <| item_r hlast.1 (by rw [ht.len]; exact hlast.2) (lt63 hlast.2) ?_
    refine EV.var (.head _) <| item_i hc4.1 (by rw [sqT ht hlast.1 hlast.2]; exact hc4.2) (lt63 hc4.2) <| EV.cInt <| gt_i <| tru_b ?_
    by_cases h1 : 0 < T t (way.getLastD 0) c
    · refine yes (h1) ?_
      refine TV.and <| TV.cmp <| EV.var (.head _) <| EV.con (.head _) <| notIn_l <| tru_b ?_
      by_cases h2 : c ∈ way
      · exact no (fun h => h h2) (by rw [decide_eq_false (fun h => h h2 : ¬ c ∉ way), Bool.and_false])
      · exact yes h2 (TV.andNil (by rw [decide_eq_true h1, decide_eq_true h2]; rfl))
    · exact no h1 (by rw [decide_eq_false h1]; rfl)
  · refine EV.bin <| EV.con (.head _) <| EV.ofN <| EN.disp <| EVs.cons <| EV.var (.head _) <| EVs.nil ⟨sz 1, add_l ?_ ?_⟩
    · rw [dints_len]; exact Nat.le_trans (Nat.add_le_add_right hl _) (sz 5)
    · show D.list _ = D.list _
      rw [show [D.int c] = dints [c] from rfl, dints_app]
  · show D.list _ = drows (furM way t)
    unfold drows furM furC
    rw [List.map_map]; rfl

theorem furM_ok {way : List Int} {t : List (List Int)} (hw : WayOk way) : ∀ l ∈ furM way t, WayOk l ∧ l.length = way.length + 1 ∧ ∃ c ∈ furC way t, l = way ++ [c] := by
  intro l hl
  obtain ⟨c, hc, rfl⟩ := List.mem_map.mp hl
  refine ⟨⟨by simp, fun x hx => ?_⟩, by simp, c, hc, rfl⟩
  rcases List.mem_append.mp hx with hx | hx
  · exact hw.2 x hx
  · rw [List.mem_singleton] at hx
    subst hx
    have := (List.mem_filter.mp hc).1
    simp [corners] at this; omega
theorem furC_len (way : List Int) (t : List (List Int)) : (furC way t).length ≤ 4 := List.length_filter_le ..
theorem flat_len {α : Type} (g : α → List (List Int)) (m : Nat) : ∀ (l : List α), (∀ a ∈ l, (g a).length ≤ m) → (l.flatMap g).length ≤ l.length * m
  | [], _ => by simp
  | a :: l, h => by
    rw [List.flatMap_cons, List.length_append, List.length_cons, Nat.succ_mul]
    have := flat_len g m l fun b hb => h b (.tail _ hb)
    have := h a (.head _)
    omega
theorem waysM_len (t : List (List Int)) : ∀ (f : Nat) (way : List Int), (waysM t f way).length ≤ 5 ^ f
  | 0, way => by simp [waysM]
  | f + 1, way => by
    show (way :: (furM way t).flatMap (waysM t f)).length ≤ _
    rw [List.length_cons]
    have h := flat_len (waysM t f) (5 ^ f) (furM way t) fun a _ => waysM_len t f a
    have h4 : (furM way t).length ≤ 4 := by unfold furM; rw [List.length_map]; exact furC_len ..
    have := Nat.mul_le_mul_right (5 ^ f) h4
    have h5 : 1 ≤ 5 ^ f := Nat.one_le_pow _ _ (by decide)
    rw [Nat.pow_succ]
    omega
theorem furC_nil {way : List Int} {t : List (List Int)} (h : ∀ c ∈ corners, c ∈ way) : furC way t = [] := by
  unfold furC
  rw [List.filter_eq_nil_iff]
  intro c hc
  simp [h c hc]
/-- how many corners the way lacks -/
noncomputable def freeN (way : List Int) : Nat := (corners.filter fun c => decide (c ∉ way)).length
theorem freeN_fur {way : List Int} {t : List (List Int)} {c : Int} (hc : c ∈ furC way t) : freeN (way ++ [c]) < freeN way := by
  unfold freeN
  have h1 := (List.mem_filter.mp hc)
  have h2 : c ∉ way := by simpa using (Bool.and_eq_true_iff.mp h1.2).2
  have key : ∀ l : List Int, c ∈ l → (l.filter fun x => decide (x ∉ way ++ [c])).length < (l.filter fun x => decide (x ∉ way)).length := by
    intro l
    have le : ∀ l : List Int, (l.filter fun x => decide (x ∉ way ++ [c])).length ≤ (l.filter fun x => decide (x ∉ way)).length := by
      intro l
      induction l with
      | nil => simp
      | cons a l ih =>
        by_cases ha : a ∈ way
        · simp [ha] at ih ⊢; exact ih
        · by_cases hac : a = c
          · subst hac; simp [h2] at ih ⊢; omega
          · simp [ha, hac] at ih ⊢; exact ih
    induction l with
    | nil => intro h; cases h
    | cons a l ih =>
      intro h
      by_cases hac : a = c
      · subst hac
        have := le l
        simp [h2] at this ⊢; omega
      · have hl : c ∈ l := by
          rcases List.mem_cons.mp h with h | h
          · exact absurd h.symm hac
          · exact h
        have := ih hl
        by_cases ha : a ∈ way
        · simp [ha] at this ⊢; exact this
        · simp [ha, hac] at this ⊢; exact this
  exact key _ h1.1
theorem free_zero {way : List Int} (h : freeN way = 0) : ∀ c ∈ corners, c ∈ way := by
  unfold freeN at h
  rw [List.length_eq_zero_iff, List.filter_eq_nil_iff] at h
  intro c hc
  have := h c hc
  simpa using this

theorem f_ways {t : List (List Int)} (ht : Sq t) : ∀ (f : Nat) (way : List Int), f ≤ 3 → WayOk way → freeN way ≤ f → way.length + f ≤ 4 → CallOk w (n + f + 2) (.fn 184) [.list (dints way), drows t] (kEq (drows (waysM t f way))) := by
  intro f
  induction f with
  | zero =>
    intro way hf hw hfr hl
    have O : FnOk 184 _ _ ["way", "table"] ["ways", "longer"] [("_law_further", .fn 177), ("_law_ways", .fn 184)] := ⟨fun P => ⟨_, _, _, rfl⟩, rfl, rfl, rfl, rfl, rfl, rfl, rfl, by intro P; kernel_rfl, all2 (fun a b => rfl), by decide +kernel, by kernel_rfl, (fall ⟨by kernel_rfl, g_law_further⟩ <| fall ⟨by kernel_rfl, g_law_ways⟩ <| fall_nil)⟩
    refine CallOk.fn O rfl <| SVs.cons <| SV.asg <| EV.ofN <| EN.disp <| EVs.cons <| EV.var (.head _) <| EVs.nil ⟨sz 1, _, (put 2 rfl), ?_⟩
    have e : furM way t = [] := by unfold furM; rw [furC_nil (free_zero (by omega))]; rfl
    refine SVs.join (fun ρ' => ∃ o, ρ' = ([("way", .v (some (.list (dints way)))), ("table", .v (some (drows t))), ("ways", .v (some (.list [.list (dints way)]))), ("longer", .v o)] : Rho)) ?_ ?_
    · refine SV.for (fun ds ρ' => ds = [] ∧ ∃ o, ρ' = ([("way", .v (some (.list (dints way)))), ("table", .v (some (drows t))), ("ways", .v (some (.list [.list (dints way)]))), ("longer", .v o)] : Rho)) ?_ ?_ ?_
      · refine IV.ofD <| EV.call <| EV.con (.head _) ⟨k177, EVs.cons <| EV.var (.head _) <| EVs.cons <| EV.var (ix 1 rfl) <| EVs.nil <| CallOk.mono (f_further hw (by omega) ht) ?_⟩
        rintro d rfl
        rw [e]
        exact IterD.list ⟨rfl, _, rfl⟩
      · rintro d ds ρ' ⟨h, _⟩; cases h
      · rintro ρ' ⟨_, h⟩; exact h
    · rintro ρ' ⟨o, rfl⟩
      exact SVs.cons <| SV.ret <| EV.var (ix 2 rfl) rfl
  | succ f ih =>
    intro way hf hw hfr hl
    have O : FnOk 184 _ _ ["way", "table"] ["ways", "longer"] [("_law_further", .fn 177), ("_law_ways", .fn 184)] := ⟨fun P => ⟨_, _, _, rfl⟩, rfl, rfl, rfl, rfl, rfl, rfl, rfl, by intro P; kernel_rfl, all2 (fun a b => rfl), by decide +kernel, by kernel_rfl, (fall ⟨by kernel_rfl, g_law_further⟩ <| fall ⟨by kernel_rfl, g_law_ways⟩ <| fall_nil)⟩
    refine CallOk.fn O rfl <| SVs.cons <| SV.asg <| EV.ofN <| EN.disp <| EVs.cons <| EV.var (.head _) <| EVs.nil ⟨sz 1, _, (put 2 rfl), ?_⟩
    let J : List (List Int) → Rho → Prop := fun done ρ' => ∃ o, ρ' = ([("way", .v (some (.list (dints way)))), ("table", .v (some (drows t))), ("ways", .v (some (drows (way :: done.flatMap (waysM t f))))), ("longer", .v o)] : Rho)
    refine SVs.join (J (furM way t)) ?_ ?_
    · refine SV.for (fun ds ρ' => ∃ done rest, furM way t = done ++ rest ∧ ds = rest.map (fun l => .list (dints l)) ∧ J done ρ') ?_ ?_ ?_
      · refine IV.ofD <| EV.call <| EV.con (.head _) ⟨k177, EVs.cons <| EV.var (.head _) <| EVs.cons <| EV.var (ix 1 rfl) <| EVs.nil <| CallOk.mono (f_further hw (by omega) ht) ?_⟩
        rintro d rfl
        exact IterD.list ⟨[], _, rfl, rfl, _, rfl⟩
      · rintro d ds ρ' ⟨done, rest, hx, hd, o, rfl⟩
        cases rest with
        | nil => cases hd
        | cons a rest =>
          rw [List.map_cons] at hd
          injection hd with hd1 hd2
          subst hd1 hd2
          refine ⟨_, AS.name (put 3 rfl), ?_⟩
          obtain ⟨wa, la, c, hc, rfl⟩ := furM_ok hw a (by rw [hx]; simp)
          have hfr2 := freeN_fur hc
          refine SVs.cons <| SV.asg <| EV.bin <| EV.var (ix 2 rfl) <| EV.call <| EV.con (ix 1 rfl) ⟨k184, EVs.cons <| EV.var (ix 3 rfl) <| EVs.cons <| EV.var (ix 1 rfl) <| EVs.nil <| CallOk.mono (ih _ (by omega) wa (by omega) (by omega)) ?_⟩
          rintro d rfl
          refine add_l ?_ <| as (y := drows (way :: (done ++ [way ++ [c]]).flatMap (waysM t f))) ?_ ⟨_, (put 2 rfl), SVs.nil ⟨done ++ [way ++ [c]], rest, hx.trans (List.append_cons ..), rfl, _, rfl⟩⟩
          · rw [List.length_map, List.length_map]
            have h1 := waysM_len t f (way ++ [c])
            have h2 : (way :: done.flatMap (waysM t f)).length ≤ 5 ^ (f + 1) := by
              have h := flat_len (waysM t f) (5 ^ f) done fun a _ => waysM_len t f a
              have h4 : done.length ≤ 4 := by
                have : (furM way t).length ≤ 4 := by unfold furM; rw [List.length_map]; exact furC_len ..
                rw [hx, List.length_append] at this; omega
              have := Nat.mul_le_mul_right (5 ^ f) h4
              have h5 : 1 ≤ 5 ^ f := Nat.one_le_pow _ _ (by decide)
              rw [Nat.pow_succ, List.length_cons]
              omega
            have h3 : 5 ^ f ≤ 5 ^ 3 := Nat.pow_le_pow_right (by decide) (by omega)
            have h4 : 5 ^ (f + 1) ≤ 5 ^ 3 := Nat.pow_le_pow_right (by decide) (by omega)
            exact Nat.le_trans (by omega : _ ≤ 5 ^ 3 + 5 ^ 3) (sz (5 ^ 3 + 5 ^ 3))
          · rw [List.flatMap_append, List.flatMap_cons, List.flatMap_nil, List.append_nil, drows, ← List.cons_append, List.map_append]
      · rintro ρ' ⟨done, rest, hx, hd, h⟩
        have : rest = [] := by simpa using hd.symm
        subst this
        rw [hx, List.append_nil]; exact h
    · rintro ρ' ⟨o, rfl⟩
      exact SVs.cons <| SV.ret <| EV.var (ix 2 rfl) rfl
end
end Mine
end

noncomputable section
--# Wb4
namespace Mine
open PySem PySem.W PyProof.Rows PySem.Calls

/-- the last step's weight -/
noncomputable def lastW (t : List (List Int)) (way : List Int) : Int := T t (way.getD (way.length - 2) 0) (way.getLastD 0)
noncomputable def lastM (t : List (List Int)) (way : List Int) : List Nat := if way.length ≤ 1 then [] else signL.getD (lastW t way - 9).toNat []
/-- a way that the table bears -/
structure Good (t : List (List Int)) (way : List Int) : Prop where
  ok : WayOk way
  len : way.length ≤ 4
  w : 1 < way.length → 9 ≤ lastW t way ∧ lastW t way ≤ 54
noncomputable def textM (t : List (List Int)) (pc : List (List Nat)) : Nat → List Int → List Nat
  | 0, way => 40 :: (lastM t way ++ pc.getD (way.getLastD 0).toNat [] ++ [41])
  | f + 1, way => 40 :: (lastM t way ++ pc.getD (way.getLastD 0).toNat [] ++ ((furM way t).map (textM t pc f)).flatten ++ [41])

section
variable {w : Wd} {n : Nat} {sc : Scope} {κ : Env2} {ρ : Rho}
theorem signL_len : signL.length = 46 := by decide +kernel
theorem signL_le : ∀ x ∈ signL, x.length ≤ 3 := by decide +kernel
theorem getD_mem_or {α : Type} (l : List α) (i : Nat) (d : α) : l.getD i d ∈ l ∨ l.getD i d = d := by
  rw [List.getD_eq_getElem?_getD]
  cases h : l[i]? with
  | none => exact .inr rfl
  | some x => exact .inl (List.mem_of_getElem? h)
theorem lastM_len (t : List (List Int)) (way : List Int) : (lastM t way).length ≤ 3 := by
  unfold lastM
  split
  · exact Nat.zero_le _
  · rcases getD_mem_or signL (lastW t way - 9).toNat [] with h | h
    · exact signL_le _ h
    · rw [h]; exact Nat.zero_le _
theorem item_nth2 {value slice : Expr} {ns : List Int} {Q : D → Prop} (hl : 1 < ns.length) (q : Q (.int (ns.getD (ns.length - 2) 0)))
    (hs : ∀ o i, subscripted slice false o i = operate [o, i] (getItem o i) := by intro _ _; rfl) : Op2 w n (subscriptTail value slice) (.list (dints ns)) (.int (-2)) Q := by
  refine item_ln (by decide) (by decide) ?_ (d := .int (ns.getD (ns.length - 2) 0)) ?_ q hs
  · rw [dints_len]; omega
  · rw [dints_len, show (((ns.length : Nat) : Int) + (-2)).toNat = ns.length - 2 by omega]
    exact get_map (f := D.int) 0 (Nat.sub_lt (Nat.lt_of_succ_lt hl) (by decide))
theorem item_c {value slice : Expr} {ls : List (List Nat)} {i : Int} {Q : D → Prop} (hi : 0 ≤ i) (hl : i < ls.length) (hf : i < 2 ^ 63) (q : Q (.str (S (ls.getD i.toNat []))))
    (hs : ∀ o i, subscripted slice false o i = operate [o, i] (getItem o i) := by intro _ _; rfl) : Op2 w n (subscriptTail value slice) (.list (dchars ls)) (.int i) Q :=
  item_l (j := 0) hi hf (get_map (f := fun l => .str (S l)) [] ((Int.toNat_lt hi).mpr hl)) q hs
theorem f_last {way : List Int} {t : List (List Int)} (g : Good t way) (ht : Sq t) : CallOk w (n + 1) (.fn 191) [.list (dints way), drows t, .list (dchars signL)] (kEq (.str (S (lastM t way)))) := by
  by_cases h1 : way.length ≤ 1
  · rw [dchars_eq]
    refine (f_last1 h1).to ?_
    rw [lastM, if_pos h1]; rfl
  have hl : 1 < way.length := by omega
  have hw2 : 0 ≤ way.getD (way.length - 2) 0 ∧ way.getD (way.length - 2) 0 < 4 := by
    refine g.ok.2 _ ?_
    rw [List.getD_eq_getElem?_getD, List.getElem?_eq_getElem (by omega)]
    exact List.getElem_mem _
  have hla := g.ok.last
  have gw := g.w hl
  have O : FnOk 191 _ _ ["way", "table", "signs"] [] [("len", .bi "len")] := ⟨fun P => ⟨_, _, _, rfl⟩, rfl, rfl, rfl, rfl, rfl, rfl, rfl, by intro P; kernel_rfl, all3 (fun a b c => rfl), by decide +kernel, by kernel_rfl, (fall ⟨by kernel_rfl, g_len⟩ <| fall_nil)⟩
  have hll := g.len
  refine CallOk.fn O rfl <| SVs.cons <| SV.ret <| EV.ife <| TV.cmp <| EV.call <| EV.con (.head _) ⟨KeepOk.bi, EVs.cons <| EV.var (.head _) <| EVs.nil <| len_l (by rw [dints_len]; exact Nat.le_trans hll (sz 4)) <| EV.cInt <| gt_i <| tru_b ?_⟩
  rw [dints_len]
  refine yes (by omega) ?_
  refine EV.sub <| EV.var (ix 2 rfl) <| EV.bin <| EV.sub <| EV.sub <| EV.var (ix 1 rfl) <| EV.sub <| EV.var (.head _) <| EV.una <| EV.cInt <| neg_i <| item_nth2 hl <| item_r hw2.1 (by rw [ht.len]; exact hw2.2) (lt63 hw2.2) ?_
  refine EV.sub <| EV.var (.head _) <| EV.una <| EV.cInt <| neg_i <| item_last g.ok.1 <| item_i hla.1 (by rw [sqT ht hw2.1 hw2.2]; exact hla.2) (lt63 hla.2) <| EV.cInt <| sub_i ?_
  show Op2 w n _ _ (.int (lastW t way - 9)) _
  refine item_c (by omega) (by rw [signL_len]; omega) (by omega) ?_
  rw [lastM, if_neg h1]; rfl

theorem lastW_app (t : List (List Int)) {way : List Int} (h : way ≠ []) (c : Int) : lastW t (way ++ [c]) = T t (way.getLastD 0) c := by
  unfold lastW
  have h0 : 0 < way.length := List.length_pos_iff.mpr h
  have e1 : (way ++ [c]).getD ((way ++ [c]).length - 2) 0 = way.getLastD 0 := by
    have : (way ++ [c]).length - 2 = way.length - 1 := by simp
    rw [this, List.getD_eq_getElem?_getD, List.getElem?_append_left (by omega), List.getLastD_eq_getLast?, List.getLast?_eq_getElem?]
  have e2 : (way ++ [c]).getLastD 0 = c := by simp
  rw [e1, e2]
/-- weights -/
noncomputable def Wt (t : List (List Int)) : Prop := ∀ i j : Int, T t i j = 0 ∨ (9 ≤ T t i j ∧ T t i j ≤ 54)
theorem Good.fur {t : List (List Int)} {way : List Int} (g : Good t way) (hw : Wt t) (hl : way.length < 4) : ∀ l ∈ furM way t, Good t l := by
  intro l h
  obtain ⟨h1, h2, c, hc, rfl⟩ := furM_ok g.ok l h
  refine ⟨h1, by omega, fun _ => ?_⟩
  rw [lastW_app t g.ok.1]
  have hp : 0 < T t (way.getLastD 0) c := by
    have := (List.mem_filter.mp hc).2
    simpa using (Bool.and_eq_true_iff.mp this).1
  rcases hw (way.getLastD 0) c with h | h
  · omega
  · exact h

theorem join_c {ls : List (List Nat)} {Q : D → Prop} (hz : ls.flatten.length ≤ 16777216) (q : Q (.str (S ls.flatten))) : CallOk w n (.bi "str.join") [.str (S []), .list (dchars ls)] Q := by
  rw [dchars_eq]
  refine join_ok ?_ (by rw [S_join]; exact q)
  have : ((ls.map S).map (·.length)).sum = ls.flatten.length := by
    rw [List.length_flatten, List.map_map]
    exact congrArg List.sum (List.map_congr_left fun a _ => S_len a)
  rw [this, S_len]
  simpa using hz
theorem add_c {a b : List Nat} {Q : D → Prop} (hz : a.length + b.length ≤ 1000000) (q : Q (.str (S (a ++ b)))) : Op2 w n (binaryOp .Add) (.str (S a)) (.str (S b)) Q :=
  add_s (by rw [S_len, S_len]; exact Nat.le_trans hz (by decide)) (by rw [S_add]; exact q)
theorem textM_len (t : List (List Int)) (pc : List (List Nat)) (hp : ∀ p ∈ pc, p.length ≤ 3) : ∀ f way, (textM t pc f way).length ≤ 8 * 5 ^ f := by
  have hg : ∀ way : List Int, (pc.getD (way.getLastD 0).toNat []).length ≤ 3 := fun way => by
    rcases getD_mem_or pc (way.getLastD 0).toNat [] with h | h
    · exact hp _ h
    · rw [h]; exact Nat.zero_le _
  intro f
  induction f with
  | zero =>
    intro way
    have := lastM_len t way
    have := hg way
    simp only [textM, List.length_cons, List.length_append, List.length_nil]
    omega
  | succ f ih =>
    intro way
    have h1 := lastM_len t way
    have h2 := hg way
    have h3 : ((furM way t).map (textM t pc f)).flatten.length ≤ (furM way t).length * (8 * 5 ^ f) := by
      generalize furM way t = l
      induction l with
      | nil => simp
      | cons a l ihl =>
        rw [List.map_cons, List.flatten_cons, List.length_append, List.length_cons, Nat.succ_mul]
        have := ih a
        omega
    have h4 : (furM way t).length ≤ 4 := by unfold furM; rw [List.length_map]; exact furC_len ..
    have h5 := Nat.mul_le_mul_right (8 * 5 ^ f) h4
    have h6 : 1 ≤ 5 ^ f := Nat.one_le_pow _ _ (by decide)
    simp only [textM, List.length_cons, List.length_append, List.length_nil]
    rw [Nat.pow_succ]
    omega
theorem f_text {t : List (List Int)} {pc : List (List Nat)} (ht : Sq t) (hw : Wt t) (hp : ∀ p ∈ pc, p.length ≤ 3) (hp4 : pc.length = 4) : ∀ (f : Nat) (way : List Int), f ≤ 3 → Good t way → freeN way ≤ f → way.length + f ≤ 4 →
    CallOk w (n + f + 2) (.fn 196) [.list (dints way), drows t, .list (dchars signL), .list (dchars pc)] (kEq (.str (S (textM t pc f way)))) := by
  have piece : ∀ way : List Int, (pc.getD (way.getLastD 0).toNat []).length ≤ 3 := fun way => by
    rcases getD_mem_or pc (way.getLastD 0).toNat [] with h | h
    · exact hp _ h
    · rw [h]; exact Nat.zero_le _
  intro f
  induction f with
  | zero =>
    intro way hf hg hfr hl
    have O : FnOk 196 _ _ ["way", "table", "signs", "pieces"] ["parts"] [("_law_further", .fn 177), ("_law_last", .fn 191)] := ⟨fun P => ⟨_, _, _, rfl⟩, rfl, rfl, rfl, rfl, rfl, rfl, rfl, by intro P; kernel_rfl, all4 (fun a b c d => rfl), by decide +kernel, by kernel_rfl, (fall ⟨by kernel_rfl, g_law_further⟩ <| fall ⟨by kernel_rfl, g_law_last⟩ <| fall_nil)⟩
    have e : furM way t = [] := by unfold furM; rw [furC_nil (free_zero (by omega))]; rfl
    have hla := hg.ok.last
    refine CallOk.fn O rfl <| SVs.cons <| SV.asgComp (κc := [("table", drows t), ("signs", .list (dchars signL)), ("pieces", .list (dchars pc)), ("_law_text", .fn 196)]) (ρc := [("longer", .v none)]) ⟨rfl, by kernel_rfl, by decide +kernel, by kernel_rfl, by kernel_rfl, by decide +kernel, (fall ⟨by decide +kernel, .cap (by kernel_rfl) (.inl (by kernel_rfl)) (ix 1 rfl) rfl⟩ <| fall ⟨by decide +kernel, .cap (by kernel_rfl) (.inl (by kernel_rfl)) (ix 2 rfl) rfl⟩ <| fall ⟨by decide +kernel, .cap (by kernel_rfl) (.inl (by kernel_rfl)) (ix 3 rfl) rfl⟩ <| fall ⟨by decide +kernel, (match g_law_text with | ⟨_, a, b⟩ => .top (by kernel_rfl) a b)⟩ <| fall_nil)⟩ rfl ?_
    refine IV.ofD <| EV.call <| EV.con (.head _) ⟨k177, EVs.cons <| EV.var (.head _) <| EVs.cons <| EV.var (ix 1 rfl) <| EVs.nil <| CallOk.to (f_further hg.ok hg.len ht) ?_⟩
    refine IterD.list ?_
    rw [e]
    refine CB.map1 (inj := fun l : List Int => .list (dints l)) (xs := []) (f := fun _ => .none) (sz 0) (fun a h => nomatch h) ?_
    refine ⟨_, (put 4 rfl), ?_⟩
    refine SVs.cons <| SV.ret <| EV.bin <| EV.bin <| EV.bin <| EV.bin <| EV.cStr <| EV.call <| EV.con (ix 1 rfl) ⟨k191, EVs.cons <| EV.var (.head _) <| EVs.cons <| EV.var (ix 1 rfl) <| EVs.cons <| EV.var (ix 2 rfl) <| EVs.nil <| CallOk.to (f_last hg ht) ?_⟩
    have l1 := lastM_len t way
    have l2 := piece way
    refine add_c (a := [40]) (by simp only [List.length_cons, List.length_append, List.length_nil, List.flatten_nil]; omega) <| EV.sub <| EV.var (ix 3 rfl) <| EV.sub <| EV.var (.head _) <| EV.una <| EV.cInt <| neg_i <| item_last hg.ok.1 <| item_c hla.1 (by rw [hp4]; exact hla.2) (lt63 hla.2) <| add_c (by simp only [List.length_cons, List.length_append, List.length_nil, List.flatten_nil]; omega) ?_
    refine EV.meth <| EV.cStr ⟨_, meth_join, KeepOk.bi, EVs.cons <| EV.var (ix 4 rfl) <| EVs.nil <| join_c (ls := []) (by decide) <| add_c (by simp only [List.length_cons, List.length_append, List.length_nil, List.flatten_nil]; omega) <| EV.cStr <| add_c (b := [41]) (by simp only [List.length_cons, List.length_append, List.length_nil, List.flatten_nil]; omega) <| congrArg (fun l => D.str (S l)) ?_⟩
    simp [textM]
  | succ f ih =>
    intro way hf hg hfr hl
    have O : FnOk 196 _ _ ["way", "table", "signs", "pieces"] ["parts"] [("_law_further", .fn 177), ("_law_last", .fn 191)] := ⟨fun P => ⟨_, _, _, rfl⟩, rfl, rfl, rfl, rfl, rfl, rfl, rfl, by intro P; kernel_rfl, all4 (fun a b c d => rfl), by decide +kernel, by kernel_rfl, (fall ⟨by kernel_rfl, g_law_further⟩ <| fall ⟨by kernel_rfl, g_law_last⟩ <| fall_nil)⟩
    have hla := hg.ok.last
    refine CallOk.fn O rfl <| SVs.cons <| SV.asgComp (κc := [("table", drows t), ("signs", .list (dchars signL)), ("pieces", .list (dchars pc)), ("_law_text", .fn 196)]) (ρc := [("longer", .v none)]) ⟨rfl, by kernel_rfl, by decide +kernel, by kernel_rfl, by kernel_rfl, by decide +kernel, (fall ⟨by decide +kernel, .cap (by kernel_rfl) (.inl (by kernel_rfl)) (ix 1 rfl) rfl⟩ <| fall ⟨by decide +kernel, .cap (by kernel_rfl) (.inl (by kernel_rfl)) (ix 2 rfl) rfl⟩ <| fall ⟨by decide +kernel, .cap (by kernel_rfl) (.inl (by kernel_rfl)) (ix 3 rfl) rfl⟩ <| fall ⟨by decide +kernel, (match g_law_text with | ⟨_, a, b⟩ => .top (by kernel_rfl) a b)⟩ <| fall_nil)⟩ rfl ?_
    refine IV.ofD <| EV.call <| EV.con (.head _) ⟨k177, EVs.cons <| EV.var (.head _) <| EVs.cons <| EV.var (ix 1 rfl) <| EVs.nil <| CallOk.to (f_further hg.ok hg.len ht) ?_⟩
    refine IterD.list ?_
    have hfl : (furM way t).length ≤ 4 := by unfold furM; rw [List.length_map]; exact furC_len ..
    refine CB.map1 (inj := fun l : List Int => .list (dints l)) (xs := furM way t) (f := fun l => .str (S (textM t pc f l))) (Nat.le_trans hfl (sz 4)) (fun a h => ?_) ?_
    · obtain ⟨wa, la, c, hc, rfl⟩ := furM_ok hg.ok a h
      have hfr2 := freeN_fur hc
      exact EV.call <| EV.con (ix 3 rfl) ⟨k196, EVs.cons <| EV.var (.head _) <| EVs.cons <| EV.con (.head _) <| EVs.cons <| EV.con (ix 1 rfl) <| EVs.cons <| EV.con (ix 2 rfl) <| EVs.nil <| ih _ (by omega) (hg.fur hw (by omega) _ h) (by omega) (by omega)⟩
    refine ⟨_, (put 4 rfl), ?_⟩
    have e : (furM way t).map (fun l => D.str (S (textM t pc f l))) = dchars ((furM way t).map (textM t pc f)) := by rw [dchars, List.map_map]; rfl
    rw [e]
    refine SVs.cons <| SV.ret <| EV.bin <| EV.bin <| EV.bin <| EV.bin <| EV.cStr <| EV.call <| EV.con (ix 1 rfl) ⟨k191, EVs.cons <| EV.var (.head _) <| EVs.cons <| EV.var (ix 1 rfl) <| EVs.cons <| EV.var (ix 2 rfl) <| EVs.nil <| CallOk.to (f_last hg ht) ?_⟩
    have l1 := lastM_len t way
    have l2 := piece way
    have l3 := textM_len t pc hp (f + 1) way
    have l4 : 5 ^ (f + 1) ≤ 5 ^ 3 := Nat.pow_le_pow_right (by decide) (by omega)
    simp only [textM, List.length_cons, List.length_append, List.length_nil] at l3
    refine add_c (a := [40]) (by simp only [List.length_cons, List.length_append, List.length_nil, List.flatten_nil]; omega) <| EV.sub <| EV.var (ix 3 rfl) <| EV.sub <| EV.var (.head _) <| EV.una <| EV.cInt <| neg_i <| item_last hg.ok.1 <| item_c hla.1 (by rw [hp4]; exact hla.2) (lt63 hla.2) <| add_c (by simp only [List.length_cons, List.length_append, List.length_nil, List.flatten_nil]; omega) ?_
    refine EV.meth <| EV.cStr ⟨_, meth_join, KeepOk.bi, EVs.cons <| EV.var (ix 4 rfl) <| EVs.nil <| join_c (by omega) <| add_c (by simp only [List.length_cons, List.length_append, List.length_nil, List.flatten_nil]; omega) <| EV.cStr <| add_c (b := [41]) (by simp only [List.length_cons, List.length_append, List.length_nil, List.flatten_nil]; omega) <| congrArg (fun l => D.str (S l)) ?_⟩
    simp [textM]
end
end Mine
end

noncomputable section
--# Lc3
namespace Mine
open PySem PySem.W PyProof.Rows PySem.Calls
section
variable {w : Wd} {n : Nat} {sc : Scope} {κ : Env2} {ρ : Rho} {K : Fl → Rho → Prop}
theorem neF {fs : List (Str × D)} {f : Str} (h : (fs.all fun q => !(q.1 == f)) = true) : ∀ q ∈ fs, q.1 ≠ f := fun q hq e => by
  have := List.all_eq_true.mp h q hq
  rw [e] at this; simp at this
inductive kAsg3 (ρ : Rho) (x y z : Str) (K : Fl → Rho → Prop) (d : D) : Prop
  | mk (hi : d.imm = true) (ρ1 ρ2 ρ3 : Rho) (P1 : Put ρ x (.v (some d)) ρ1) (P2 : Put ρ1 y (.v (some d)) ρ2) (P3 : Put ρ2 z (.v (some d)) ρ3) (k : K .next ρ3)
/-- x = y = z = e -/
theorem SV.asg3 {x y z : Str} {p1 p2 p3 pos : Pos} {e : Expr} (h : EV w n sc κ ρ e (kAsg3 ρ x y z K))
    (he : ∀ env, (assignEach [.Name x p1, .Name y p2, .Name z p3] env).map (·.2) = [assign (.Name x p1) env, assign (.Name y p2) env, assign (.Name z p3) env] := by intro _; rfl)
    (hw : ∀ env, swappedStores [.Name x p1, .Name y p2, .Name z p3] e env = pure none := by intro _; rfl) : SV w n sc κ ρ (.Assign [.Name x p1, .Name y p2, .Name z p3] e pos) K := by
  constructor
  intro A env F W ad s hs b f R
  refine wpAny_Assign_three (h.in2 hs b f R fun v s1 G1 d q r x1 R1 y1 => ?_) (he env) (hw env)
  obtain ⟨hi, ρ1, ρ2, ρ3, P1, P2, P3, k⟩ := q
  exact PyProof.Rows.assign_Name (R1.store P1 (r.imm hi) fun s2 R2 a2 => PyProof.Rows.assign_Name (R2.store P2 (r.imm hi) fun s3 R3 a3 => PyProof.Rows.assign_Name (R3.store P3 (r.imm hi) fun s4 R4 a4 => .on k R4 (((y1.trans (a2.stp R1.wthere)).trans (a3.stp R2.wthere)).trans (a4.stp R3.wthere)))))
end
end Mine
end

noncomputable section
--# Wb5
namespace Mine
open PySem PySem.W PyProof.Rows PySem.Calls

noncomputable def wide (cnt : List Int) (b : Int) : List Int := if (cnt.length : Int) ≤ b then cnt ++ List.replicate (b - cnt.length + 1).toNat 0 else cnt
noncomputable def bump (cnt : List Int) (b : Int) : List Int := (wide cnt b).set b.toNat ((wide cnt b).getD b.toNat 0 + 1)
noncomputable def wsGo : List Nat → List Int → Int → Int → Int → List Int × Int × Int × Int
  | [], cnt, b, n, nt => (cnt, b, n, nt)
  | c :: cs, cnt, b, n, nt => if c = 32 then wsGo cs cnt (b + 1) (n + 1) nt else if c = 9 then wsGo cs (bump cnt b) 0 (n + 1) (nt + 1) else (cnt, b, n, nt)
noncomputable def wsOf (cs : List Nat) : Ws := ⟨S cs, (wsGo cs [] 0 0 0).2.2.1, (wsGo cs [] 0 0 0).2.2.2, (wsGo cs [] 0 0 0).1, (wsGo cs [] 0 0 0).2.1⟩
theorem wide_in {cnt : List Int} {b : Nat} (h : (cnt.length : Int) ≤ b) : wide cnt b = cnt ++ List.replicate (b - cnt.length + 1) 0 := by
  have e : (b : Int) - cnt.length + 1 = ((b - cnt.length + 1 : Nat) : Int) := by rw [Int.natCast_succ, Int.natCast_sub (Int.ofNat_le.mp h)]
  rw [wide, if_pos h, e, Int.toNat_natCast]
theorem wide_len (cnt : List Int) (b : Nat) : b < (wide cnt b).length ∧ ((wide cnt b).length = cnt.length ∨ (wide cnt b).length = b + 1) := by
  by_cases h : (cnt.length : Int) ≤ b
  · have e : (wide cnt b).length = b + 1 := by
      rw [wide_in h, List.length_append, List.length_replicate, ← Nat.add_assoc, Nat.add_sub_cancel' (Int.ofNat_le.mp h)]
    rw [e]
    exact ⟨Nat.lt_succ_self b, .inr rfl⟩
  · rw [wide, if_neg h]
    exact ⟨Int.ofNat_lt.mp (Int.not_le.mp h), .inl rfl⟩
theorem bump_len (cnt : List Int) (b : Nat) : (bump cnt b).length = (wide cnt b).length := List.length_set ..
theorem wide_rest {cnt : List Int} {b r : Nat} (hb : b + (r + 1) ≤ 1000) (hc : cnt.length + (r + 1) ≤ 1000) : (wide cnt b).length + r ≤ 1000 := (wide_len cnt b).2.elim (fun q => q ▸ Nat.le_of_succ_le hc) fun q => by rw [q, Nat.succ_add_eq_add_succ]; exact hb
noncomputable def makeR (cs : List Nat) (a : Nat) (cnt : List Int) (b n nt : Int) (o : Option D) : Rho := [("self", .ob a [("raw", .str (S cs))]), ("ws", .v (some (.str (S cs)))), ("S", .v (some (.str " "))), ("T", .v (some (.str "\t"))), ("count", .ml (dints cnt)), ("b", .v (some (.int b))), ("n", .v (some (.int n))), ("nt", .v (some (.int nt))), ("ch", .v o)]
inductive MakeI (cs : List Nat) (a : Nat) (ds : List D) (ρ : Rho) : Prop
  | mk (rest : List Nat) (cnt : List Int) (b : Nat) (n nt : Int) (o : Option D) (hd : ds = rest.map fun c => .str (S [c])) (hg : wsGo rest cnt b n nt = wsGo cs [] 0 0 0) (hb : b + rest.length ≤ 1000) (hc : cnt.length + rest.length ≤ 1000) (e : ρ = makeR cs a cnt b n nt o)
inductive MakeJ (cs : List Nat) (a : Nat) (ρ : Rho) : Prop
  | mk (cnt : List Int) (b n nt : Int) (o : Option D) (hg : (cnt, b, n, nt) = wsGo cs [] 0 0 0) (hc : cnt.length ≤ 1000) (e : ρ = makeR cs a cnt b n nt o)
theorem e32 {c : Nat} : (S [c] = (" " : Str)) ↔ c = 32 := by
  rw [show (" " : Str) = S [32] from by decide +kernel, S_inj, List.cons.injEq]
  exact and_iff_left rfl
theorem e9 {c : Nat} : (S [c] = ("\t" : Str)) ↔ c = 9 := by
  rw [show ("\t" : Str) = S [9] from by decide +kernel, S_inj, List.cons.injEq]
  exact and_iff_left rfl
theorem zeros_imm {cnt : List Int} {k : Nat} : ∀ d ∈ dints cnt ++ List.replicate k (.int 0), d.imm = true := fun d hd => (List.mem_append.mp hd).elim (fun h => (List.mem_map.mp h).elim fun _ h => h.2 ▸ rfl) fun h => (List.mem_replicate.mp h).2 ▸ rfl
section
variable {w : Wd} {n : Nat} {sc : Scope} {κ : Env2} {ρ : Rho}
theorem f_make {cs : List Nat} (hl : cs.length ≤ 1000) : CallOk w (n + 2) (.fn 146) [.str (S cs)] (kEq ((wsOf cs).d)) := by
  have O : FnOk 101 _ _ ["self", "ws"] ["S", "T", "count", "b", "n", "nt", "ch"] [("Whitespace", .fn 146), ("len", .bi "len"), ("tuple", .ty "tuple")] := ⟨fun P => ⟨_, _, _, rfl⟩, rfl, rfl, rfl, rfl, rfl, rfl, rfl, by intro P; kernel_rfl, all2 (fun a b => rfl), by decide +kernel, by kernel_rfl, (fall ⟨by kernel_rfl, g_Whitespace⟩ <| fall ⟨by kernel_rfl, g_len⟩ <| fall ⟨by kernel_rfl, g_tuple⟩ <| fall_nil)⟩
  refine CallOk.make O rfl (fun a => ?_) (fun P => by kernel_rfl) (fun P => by kernel_rfl) (fun P => by kernel_rfl)
  refine SVs.cons <| SV.setAttr (.head _) (by decide +kernel) (fun q h => nomatch h) (fun P => by kernel_rfl) <| EV.var (ix 1 rfl) ⟨_, .hit, ?_⟩
  refine SVs.cons <| SV.asg2s (hs2 := (by intro env h; cases env; subst h; rfl)) (h := EV.tup <| EVs.cons <| EV.cls (.head _) (fun P => by kernel_rfl) (fun P => rfl) rfl (fun _ _ => .str ..) <| EVs.cons <| EV.cls (.head _) (fun P => by kernel_rfl) (fun P => rfl) rfl (fun _ _ => .str ..) <| EVs.nil ⟨sz 2, _, _, rfl, _, _, (put 3 rfl), (put 2 rfl), ?_⟩)
  refine SVs.cons <| SV.asgN <| EN.disp <| EVs.nil ⟨sz 0, (fun _ h => nomatch h), _, (put 4 rfl), ?_⟩
  refine SVs.cons <| SV.asg3 <| EV.cInt ⟨rfl, _, _, _, (put 5 rfl), (put 6 rfl), (put 7 rfl), ?_⟩
  refine SVs.join (MakeJ cs a) ?_ ?_
  · refine SV.forI (MakeI cs a) ?_ ?_ ?_
    · refine EV.fld (EV.varO (.head _) ⟨_, _, rfl, .head _, fun _ z => (by cases z), rfl, ?_⟩) (fun P => by kernel_rfl)
      refine fun A G s v b f i z r => (IterD.str ?_).run A G s v b f i z r
      exact ⟨cs, [], 0, 0, 0, none, rfl, rfl, (Nat.zero_add _).symm ▸ hl, (Nat.zero_add _).symm ▸ hl, rfl⟩
    · rintro d ds _ ⟨rest, cnt, b, n, nt, o, hd, hg, hb, hc, rfl⟩
      cases rest with
      | nil => cases hd
      | cons c rest =>
        obtain ⟨rfl, rfl⟩ := List.cons.inj hd
        refine ⟨_, AS.name (put 8 rfl), SVs.cons <| SV.if <| TV.cmp <| EV.var (ix 8 rfl) <| EV.var (ix 2 rfl) <| eq_s <| tru_b ?_⟩
        rw [wsGo] at hg
        by_cases h32 : c = 32
        · rw [if_pos h32] at hg
          refine yes (e32.mpr h32) <| SVs.cons <| SV.asgI <| EV.bin <| EV.var (ix 6 rfl) <| EV.cInt <| add_i ⟨rfl, _, (put 6 rfl), ?_⟩
          exact SVs.cons <| SV.asgI <| EV.bin <| EV.var (ix 5 rfl) <| EV.cInt <| add_i ⟨rfl, _, (put 5 rfl), SVs.nil <| SVs.nil ⟨rest, cnt, b + 1, n + 1, nt, some (.str (S [c])), rfl, hg, Nat.le_trans (Nat.le_of_eq (Nat.succ_add_eq_add_succ b _)) hb, Nat.le_of_succ_le hc, rfl⟩⟩
        · rw [if_neg h32] at hg
          refine no (fun h => h32 (e32.mp h)) <| SVs.cons <| SV.if <| TV.cmp <| EV.var (ix 8 rfl) <| EV.var (ix 3 rfl) <| eq_s <| tru_b ?_
          by_cases h9 : c = 9
          · rw [if_pos h9] at hg
            have hc1 : cnt.length ≤ 1000 := Nat.le_trans (Nat.le_add_right ..) hc
            have hcl : (dints cnt).length ≤ sizeLine := Nat.le_trans (Nat.le_of_eq (dints_len _)) (Nat.le_trans hc1 (sz 1000))
            have hb1 : b ≤ 1000 := Nat.le_trans (Nat.le_add_right ..) hb
            refine yes (e9.mpr h9) <| SVs.cons <| SV.asgI <| EV.bin <| EV.var (ix 6 rfl) <| EV.cInt <| add_i ⟨rfl, _, (put 6 rfl), ?_⟩
            refine SVs.cons <| SV.asgI <| EV.bin <| EV.var (ix 7 rfl) <| EV.cInt <| add_i ⟨rfl, _, (put 7 rfl), ?_⟩
            refine SVs.join (· = makeR cs a (wide cnt b) b (n + 1) (nt + 1) (some (.str (S [c])))) ?_ ?_
            · refine SV.if <| TV.cmp <| EV.var (ix 5 rfl) <| EV.call <| EV.con (ix 1 rfl) ⟨KeepOk.bi, EVs.cons <| EV.varL (ix 4 rfl) <| EVs.nil <| len_l hcl <| ge_i <| tru_b ?_⟩
              rw [dints_len]
              by_cases hw : (cnt.length : Int) ≤ b
              · have hk : (b : Int) - cnt.length + 1 ≤ (1001 : Nat) := Int.add_le_add_right (Int.le_trans (Int.sub_le_self _ (Int.natCast_nonneg _)) (Int.ofNat_le.mpr hb1)) 1
                refine yes hw <| SVs.cons <| SV.asgN <| EN.bin <| EV.varL (ix 4 rfl) <| EV.ofN <| EN.bin <| EV.ofN <| EN.disp <| EVs.cons <| EV.cInt <| EVs.nil ⟨sz 1, EV.bin <| EV.bin <| EV.var (ix 5 rfl) <| EV.call <| EV.con (ix 1 rfl) ⟨KeepOk.bi, EVs.cons <| EV.varL (ix 4 rfl) <| EVs.nil <| len_l hcl <| sub_i <| EV.cInt <| add_i ?_⟩⟩
                rw [dints_len]
                refine mul_lN (Int.le_trans hk (by decide)) (Int.le_trans (by decide) (Int.add_nonneg (Int.sub_nonneg_of_le hw) (by decide))) <| add_lN ?_ ⟨zeros_imm, _, (put 4 rfl), SVs.nil ?_⟩
                · rw [dints_len, List.length_replicate]
                  exact Nat.le_trans (Nat.add_le_add hc1 (Int.toNat_le.mpr hk)) (by decide)
                · have : dints cnt ++ List.replicate ((b : Int) - cnt.length + 1).toNat (.int 0) = dints (wide cnt b) := by
                    rw [wide, if_pos hw, dints, dints, List.map_append, List.map_replicate]
                  rw [this]; rfl
              · refine no hw <| SVs.nil ?_
                rw [show wide cnt b = cnt from if_neg hw]; rfl
            · rintro _ rfl
              obtain ⟨l1, l2⟩ := wide_len cnt b
              have hb2 : (b : Int) < 2 ^ 63 := Int.lt_of_le_of_lt (Int.ofNat_le.mpr hb1) (by decide)
              refine SVs.cons <| SV.setItem (ix 4 rfl) <| EV.bin <| EV.sub <| EV.varL (ix 4 rfl) <| EV.var (ix 5 rfl) <| item_i (Int.natCast_nonneg b) (Int.ofNat_lt.mpr l1) hb2 <| EV.cInt <| add_i ⟨rfl, EV.var (ix 5 rfl) ⟨b, rfl, (Nat.lt_of_lt_of_eq l1 (dints_len _).symm), hb2, _, (put 4 rfl), ?_⟩⟩
              refine SVs.cons <| SV.asgI <| EV.cInt ⟨rfl, _, (put 5 rfl), SVs.nil <| SVs.nil <| SVs.nil ⟨rest, bump cnt b, 0, n + 1, nt + 1, some (.str (S [c])), rfl, hg, Nat.le_trans (Nat.add_le_add_right (Nat.zero_le b) _) (Nat.le_trans (Nat.add_le_add_left (Nat.le_succ _) b) hb), bump_len cnt b ▸ wide_rest hb hc, ?_⟩⟩
              have : (dints (wide cnt b)).set b (.int ((wide cnt b).getD b 0 + 1)) = dints (bump cnt b) := List.map_set.symm
              rw [Int.toNat_natCast, this]; rfl
          · rw [if_neg h9] at hg
            exact no (fun h => h9 (e9.mp h)) <| SVs.cons <| SV.brk ⟨cnt, b, n, nt, some (.str (S [c])), hg, Nat.le_trans (Nat.le_add_right ..) hc, rfl⟩
    · rintro _ ⟨rest, cnt, b, n, nt, o, hd, hg, hb, hc, rfl⟩
      obtain rfl := List.map_eq_nil_iff.mp hd.symm
      exact ⟨cnt, b, n, nt, o, hg, hc, rfl⟩
  · rintro _ ⟨cnt, b, m, nt, o, hg, hc, rfl⟩
    have hcl : (dints cnt).length ≤ sizeLine := Nat.le_trans (Nat.le_of_eq (dints_len _)) (Nat.le_trans hc (sz 1000))
    refine SVs.freeze (ix 4 rfl) (put 4 rfl) ?_
    refine SVs.cons <| SV.setAttr (.head _) (by decide +kernel) (neF (by kernel_rfl)) (fun P => by kernel_rfl) <| EV.var (ix 6 rfl) ⟨_, .hit, ?_⟩
    refine SVs.cons <| SV.setAttr (.head _) (by decide +kernel) (neF (by kernel_rfl)) (fun P => by kernel_rfl) <| EV.var (ix 7 rfl) ⟨_, .hit, ?_⟩
    refine SVs.cons <| SV.setAttr (.head _) (by decide +kernel) (neF (by kernel_rfl)) (fun P => by kernel_rfl) <| EV.tup <| EVs.cons <| EV.call <| EV.con (.tail _ (ix 1 rfl)) ⟨KeepOk.ty, EVs.cons <| EV.var (ix 4 rfl) <| EVs.nil <| tuple_l hcl <| EVs.cons <| EV.var (ix 5 rfl) <| EVs.nil ⟨sz 2, _, .hit, ?_⟩⟩
    refine SVs.cons <| SV.setAttr (.head _) (by decide +kernel) (neF (by kernel_rfl)) (fun P => by kernel_rfl) <| EV.cmp <| EV.call <| EV.con (ix 1 rfl) ⟨KeepOk.bi, EVs.cons <| EV.var (ix 4 rfl) <| EVs.nil <| len_l hcl <| EV.cInt <| le_i ⟨_, .hit, SVs.nil ⟨.inl rfl, _, .head _, ?_⟩⟩⟩
    rw [dints_len]
    show D.inst _ = D.inst _
    unfold wsOf
    rw [← hg]
    rw [show decide ((cnt.length : Int) ≤ 1) = decide (cnt.length ≤ 1) from decide_eq_decide.mpr (Int.ofNat_le (n := 1))]; rfl
end
end Mine
end

noncomputable section
--# Wb6
namespace Mine
open PySem PySem.W PyProof.Rows PySem.Calls

noncomputable def ilGo (ts : Nat) : Nat → List Int → Int → Int
  | _, [], acc => acc
  | i, c :: cs, acc => ilGo ts (i + 1) cs (acc + (i / ts : Nat) * c)
noncomputable def indM (x : Ws) (ts : Nat) : Int := x.tl + ts * (ilGo ts ts (x.cnt.drop ts) 0 + x.nt)
noncomputable def allLt (x y : Ws) : Nat → Nat → Bool
  | _, 0 => true
  | ts, k + 1 => if indM y ts ≤ indM x ts then false else allLt x y (ts + 1) k
noncomputable def lonM (x : Ws) : Int := max ((x.cnt.length : Int) - 1) x.tl
noncomputable def lessM (x y : Ws) : Bool :=
  if y.n ≤ x.n then false
  else if x.cnt.length ≤ 1 ∧ y.cnt.length ≤ 1 then decide (x.nt ≤ y.nt)
  else allLt x y 2 (max (lonM x) (lonM y)).toNat
structure WsOk (x : Ws) : Prop where
  len : x.cnt.length ≤ 1000
  tl0 : 0 ≤ x.tl
  tl : x.tl ≤ 1000

section
variable {w : Wd} {n : Nat} {sc : Scope} {κ : Env2} {ρ : Rho}
theorem item_t {value slice : Expr} {ns : List Int} {i : Int} {Q : D → Prop} (hi : 0 ≤ i) (hl : i < ns.length) (hf : i < 2 ^ 63) (q : Q (.int (ns.getD i.toNat 0)))
    (hs : ∀ o i, subscripted slice false o i = operate [o, i] (getItem o i) := by intro _ _; rfl) : Op2 w n (subscriptTail value slice) (.tup (dints ns)) (.int i) Q := by
  constructor
  intro A G s v1 v2 b f iv z r1 r2
  cases r2 using Rep.intE with | int t =>
  cases r1 using Rep.tupE with | @tup a vs ga ht rs =>
    obtain ⟨v, hv, r⟩ := rs.get (get_map (f := D.int) 0 ((Int.toNat_lt hi).mpr hl))
    exact tail_any ht.typeIs slot_tuple_getitem.lookup (PyProof.Rows.getItem_tuple (j := i.toNat) (x := v) ht (Int.le_trans (by decide) hi) hf (seqIndex_of hi (rs.length.trans (dints_len ns) ▸ hl : i < (vs.length : Int))) (get_list hv) (Post.here iv r q)) (hs _ _)
theorem small_mul {a b : Int} (h0 : 0 ≤ a) (h : a ≤ 1000000) : IntMulOk a b := IntMulOk.of_left (intBits_le_iff.mpr (by omega))
noncomputable def indR (x : Ws) (ts : Nat) (il : Int) (o : Option D) : Rho := [("self", .v (some x.d)), ("tabsize", .v (some (.int ts))), ("count", .v (some (.tup (dints x.cnt)))), ("trailing", .v (some (.int x.tl))), ("il", .v (some (.int il))), ("i", .v o)]
inductive IndJ (x : Ws) (ts : Nat) (ρ : Rho) : Prop
  | mk (o : Option D) (e : ρ = indR x ts (ilGo ts ts (x.cnt.drop ts) 0) o)
inductive IndI (x : Ws) (ts : Nat) (ds : List D) (ρ : Rho) : Prop
  | mk (i : Nat) (acc : Int) (o : Option D) (hd : ds = arD i 1 (x.cnt.length - i)) (hi : ts ≤ i) (hg : ilGo ts i (x.cnt.drop i) acc = ilGo ts ts (x.cnt.drop ts) 0) (e : ρ = indR x ts acc o)
theorem fdiv_nat {i k : Nat} : (i : Int).fdiv k = ((i / k : Nat) : Int) := Int.fdiv_eq_ediv_of_nonneg _ (Int.natCast_nonneg k)
theorem f_indent {x : Ws} (hx : WsOk x) {ts : Nat} (h1 : 1 ≤ ts) (h2 : ts ≤ 2000) : CallOk w (n + 1) (.fn 115) [x.d, .int ts] (kEq (.int (indM x ts))) := by
  have O : FnOk 115 _ _ ["self", "tabsize"] ["count", "trailing", "il", "i"] [("len", .bi "len"), ("range", .ty "range")] := ⟨fun P => ⟨_, _, _, rfl⟩, rfl, rfl, rfl, rfl, rfl, rfl, rfl, by intro P; kernel_rfl, all2 (fun a b => rfl), by decide +kernel, by kernel_rfl, (fall ⟨by kernel_rfl, g_len⟩ <| fall ⟨by kernel_rfl, g_range⟩ <| fall_nil)⟩
  have hl' : (dints x.cnt).length ≤ sizeLine := by rw [dints_len]; exact Nat.le_trans hx.len (sz 1000)
  refine CallOk.fn O rfl (SVs.cons <| SV.asg2 <| fld_norm (x := x) <| EV.var (.head _) ⟨rfl, _, _, rfl, _, _, (put 2 rfl), (put 3 rfl), ?_⟩)
  refine SVs.cons <| SV.asg <| EV.cInt ⟨_, (put 4 rfl), ?_⟩
  refine SVs.join (IndJ x ts) ?_ ?_
  · refine SV.for (IndI x ts) ?_ ?_ ?_
    · refine IV.call <| EV.con (ix 1 rfl) ⟨KeepOk.ty, EVs.cons <| EV.var (ix 1 rfl) <| EVs.cons <| EV.call <| EV.con (.head _) ⟨KeepOk.bi, EVs.cons <| EV.var (ix 2 rfl) <| EVs.nil <| len_t hl' <| EVs.nil <| range_2 (by omega) (by omega) (by omega) ?_ ?_⟩⟩
      · have := hx.len; rw [dints_len]; omega
      · rw [dints_len]
        refine ⟨ts, 0, none, ?_, Nat.le_refl _, rfl, rfl⟩
        congr 1
        omega
    · rintro d ds ρ' ⟨i, acc, o, hd, hi, hg, rfl⟩
      obtain ⟨k, hk⟩ : ∃ k, x.cnt.length - i = k + 1 := by
        cases h : x.cnt.length - i with
        | zero => rw [h] at hd; cases hd
        | succ k => exact ⟨k, rfl⟩
      have hlt : i < x.cnt.length := Nat.lt_of_sub_pos (hk ▸ Nat.succ_pos k)
      rw [hk] at hd
      obtain ⟨rfl, rfl⟩ := List.cons.inj hd
      have hxl := hx.len
      refine ⟨_, AS.name (put 5 rfl), ?_⟩
      refine SVs.cons <| SV.asg <| EV.bin <| EV.var (ix 4 rfl) <| EV.bin <| EV.bin <| EV.var (ix 5 rfl) <| EV.var (ix 1 rfl) <| fdiv_i (by omega) <| EV.sub <| EV.var (ix 2 rfl) <| EV.var (ix 5 rfl) <| item_t (by omega) (by omega) (by omega) <| mul_i ?_ <| add_i ⟨_, (put 4 rfl), SVs.nil ?_⟩
      · rw [fdiv_nat]
        exact small_mul (Int.natCast_nonneg _) (Int.ofNat_le.mpr (Nat.le_trans (Nat.div_le_self i ts) (Nat.le_of_lt (Nat.lt_of_lt_of_le hlt (Nat.le_trans hxl (by decide))))))
      · refine ⟨i + 1, _, some (.int i), ?_, Nat.le_succ_of_le hi, ?_, rfl⟩
        · rw [Nat.sub_add_eq, hk]; rfl
        · rw [← hg, fdiv_nat, List.drop_eq_getElem_cons hlt, ilGo, List.getD_eq_getElem?_getD, Int.toNat_natCast, List.getElem?_eq_getElem hlt]; rfl
    · rintro ρ' ⟨i, acc, o, hd, hi, hg, rfl⟩
      have hge : x.cnt.length ≤ i := by
        cases h : x.cnt.length - i with
        | zero => exact Nat.le_of_sub_eq_zero h
        | succ k => rw [h] at hd; cases hd
      rw [List.drop_of_length_le hge] at hg
      exact ⟨o, by rw [← hg]; rfl⟩
  · rintro _ ⟨o, rfl⟩
    refine SVs.cons <| SV.ret <| EV.bin <| EV.var (ix 3 rfl) <| EV.bin <| EV.var (ix 1 rfl) <| EV.bin <| EV.var (ix 4 rfl) <| fld_nt (x := x) <| EV.var (.head _) ⟨rfl, add_i <| mul_i (small_mul (by omega) (by omega)) <| add_i rfl⟩

theorem m_indent {x : Ws} : MethIs w x.d "indent_level" (.fn 115) := meth_inst (fun P => by kernel_rfl) (fun P => by kernel_rfl) (by decide +kernel)
theorem m_longest {x : Ws} : MethIs w x.d "longest_run_of_spaces" (.fn 108) := meth_inst (fun P => by kernel_rfl) (fun P => by kernel_rfl) (by decide +kernel)
theorem m_less {x : Ws} : MethIs w x.d "less" (.fn 136) := meth_inst (fun P => by kernel_rfl) (fun P => by kernel_rfl) (by decide +kernel)
theorem m_equal {x : Ws} : MethIs w x.d "equal" (.fn 122) := meth_inst (fun P => by kernel_rfl) (fun P => by kernel_rfl) (by decide +kernel)
noncomputable def lessR (x y : Ws) (o p : Option D) : Rho := [("self", .v (some x.d)), ("other", .v (some y.d)), ("n", .v o), ("ts", .v p)]
inductive LessJ (x y : Ws) (ρ : Rho) : Prop
  | mk (e : ρ = lessR x y none none) (h : ¬ (x.cnt.length ≤ 1 ∧ y.cnt.length ≤ 1))
inductive LessI (x y : Ws) (N : Nat) (ds : List D) (ρ : Rho) : Prop
  | mk (ts k : Nat) (o : Option D) (hd : ds = arD ts 1 k) (h2 : 2 ≤ ts) (hk : ts + k ≤ 1000 + 2) (hkn : 0 < k → ts + k ≤ N + 2) (hg : allLt x y ts k = allLt x y 2 N) (e : ρ = lessR x y (some (.int ((N : Int) + 1))) o)
theorem lon_le {x : Ws} (hx : WsOk x) : 0 ≤ lonM x ∧ lonM x ≤ 1000 := ⟨Int.le_trans hx.tl0 (Int.le_max_right _ _), Int.max_le.mpr ⟨by have := hx.len; omega, hx.tl⟩⟩
theorem max_nat {p q : Int} {N : Nat} (h0 : 0 ≤ p) (hp : p ≤ 1000) (hq : q ≤ 1000) (hN : N = (max p q).toNat) : (if q > p then q else p) = (N : Int) ∧ N ≤ 1000 := by
  subst hN
  refine ⟨?_, Int.toNat_le.mpr (Int.max_le.mpr ⟨hp, hq⟩)⟩
  rw [Int.toNat_of_nonneg (Int.le_trans h0 (Int.le_max_left _ _))]
  split <;> rename_i h
  · exact (Int.max_eq_right (Int.le_of_lt h)).symm
  · exact (Int.max_eq_left (Int.not_lt.mp h)).symm
theorem lon_max {x y : Ws} (hx : WsOk x) (hy : WsOk y) {N : Nat} (hN : N = (max (lonM x) (lonM y)).toNat) : (if lonM y > lonM x then lonM y else lonM x) = (N : Int) ∧ N ≤ 1000 := max_nat (lon_le hx).1 (lon_le hx).2 (lon_le hy).2 hN
theorem f_less {x y : Ws} (hx : WsOk x) (hy : WsOk y) : CallOk w (n + 2) (.fn 136) [x.d, y.d] (kEq (.bool (lessM x y))) := by
  have O : FnOk 136 _ _ ["self", "other"] ["n", "ts"] [("max", .bi "max"), ("range", .ty "range")] := ⟨fun P => ⟨_, _, _, rfl⟩, rfl, rfl, rfl, rfl, rfl, rfl, rfl, by intro P; kernel_rfl, all2 (fun a b => rfl), by decide +kernel, by kernel_rfl, (fall ⟨by kernel_rfl, g_max⟩ <| fall ⟨by kernel_rfl, g_range⟩ <| fall_nil)⟩
  have sx : x.cnt.length ≤ sizeLine := Nat.le_trans hx.len (sz 1000)
  have sy : y.cnt.length ≤ sizeLine := Nat.le_trans hy.len (sz 1000)
  refine CallOk.fn O rfl (SVs.cons <| SV.if <| TV.cmp <| fld_n (x := x) <| EV.var (.head _) ⟨rfl, fld_n (x := y) <| EV.var (ix 1 rfl) ⟨rfl, ge_i <| tru_b ?_⟩⟩)
  by_cases h1 : y.n ≤ x.n
  · exact yes h1 <| SVs.cons <| SV.ret <| EV.cBool (by rw [lessM, if_pos h1]; rfl)
  refine no h1 <| SVs.nil <| SVs.join (LessJ x y) ?_ ?_
  · refine SV.if <| TV.and <| TV.val <| fld_simple (x := x) <| EV.var (.head _) ⟨rfl, tru_b ?_⟩
    by_cases hx1 : x.cnt.length ≤ 1
    · refine yes hx1 <| TV.and <| TV.val <| fld_simple (x := y) <| EV.var (ix 1 rfl) ⟨rfl, tru_b ?_⟩
      by_cases hy1 : y.cnt.length ≤ 1
      · refine yes hy1 <| TV.andNil <| yesB rfl <| SVs.cons <| SV.ret <| EV.cmp <| fld_nt (x := x) <| EV.var (.head _) ⟨rfl, fld_nt (x := y) <| EV.var (ix 1 rfl) ⟨rfl, le_i ?_⟩⟩
        rw [lessM, if_neg h1, if_pos ⟨hx1, hy1⟩]; rfl
      · exact no hy1 <| noB rfl <| SVs.nil ⟨rfl, fun h => hy1 h.2⟩
    · exact no hx1 <| noB rfl <| SVs.nil ⟨rfl, fun h => hx1 h.1⟩
  · rintro _ ⟨rfl, hn⟩
    refine SVs.cons <| SV.asg <| EV.bin <| EV.call <| EV.con (.head _) ⟨KeepOk.bi, EVs.cons <| EV.meth <| EV.var (.head _) ⟨_, m_longest, k108, EVs.nil <| CallOk.to (f_longest sx) ?_⟩⟩
    refine EVs.cons <| EV.meth <| EV.var (ix 1 rfl) ⟨_, m_longest, k108, EVs.nil <| CallOk.to (f_longest sy) ?_⟩
    obtain ⟨N, hN⟩ : ∃ N, N = (max (lonM x) (lonM y)).toNat := ⟨_, rfl⟩
    have e : lessM x y = allLt x y 2 N := by rw [hN, lessM, if_neg h1, if_neg hn]
    refine EVs.nil <| max_2 <| as (congrArg D.int (lon_max hx hy hN).1) <| EV.cInt <| add_i ⟨_, (put 2 rfl), ?_⟩
    have hN2 := (lon_max hx hy hN).2
    refine SVs.join (fun _ => allLt x y 2 N = true) ?_ fun ρ' h => SVs.cons <| SV.ret <| EV.cBool (by rw [e, h]; rfl)
    refine SV.for (LessI x y N) ?_ ?_ ?_
    · refine IV.call <| EV.con (ix 1 rfl) ⟨KeepOk.ty, EVs.cons <| EV.cInt <| EVs.cons <| EV.bin <| EV.var (ix 2 rfl) <| EV.cInt <| add_i <| EVs.nil <| range_2 (by decide) (by decide) (by omega) (by omega) ?_⟩
      exact ⟨2, N, none, congrArg (arD 2 1) (by omega), Nat.le_refl _, by omega, fun _ => by omega, rfl, rfl⟩
    · rintro d ds ρ' ⟨ts, k, o, hd, h2, hk, hkn, hg, rfl⟩
      cases k with
      | zero => cases hd
      | succ k =>
        obtain ⟨rfl, rfl⟩ := List.cons.inj hd
        refine ⟨_, AS.name (put 3 rfl), ?_⟩
        refine SVs.cons <| SV.if <| TV.cmp <| EV.meth <| EV.var (.head _) ⟨_, m_indent, k115, EVs.cons <| EV.var (ix 3 rfl) <| EVs.nil <| CallOk.to (f_indent hx (by omega) (by omega)) ?_⟩
        refine EV.meth <| EV.var (ix 1 rfl) ⟨_, m_indent, k115, EVs.cons <| EV.var (ix 3 rfl) <| EVs.nil <| CallOk.to (f_indent hy (by omega) (by omega)) ?_⟩
        refine ge_i <| tru_b ?_
        rw [allLt] at hg
        by_cases hlt : indM y ts ≤ indM x ts
        · rw [if_pos hlt] at hg
          exact yes hlt <| SVs.cons <| SV.ret <| EV.cBool (by rw [e, ← hg]; rfl)
        · rw [if_neg hlt] at hg
          exact no hlt <| SVs.nil <| SVs.nil ⟨ts + 1, k, some (.int ts), rfl, Nat.le_succ_of_le h2, by omega, fun _ => by omega, hg, rfl⟩
    · rintro ρ' ⟨ts, k, o, hd, h2, hk, hkn, hg, rfl⟩
      cases k with
      | zero => exact hg.symm
      | succ k => cases hd
end
end Mine
end

noncomputable section
--# Wb7
namespace Mine
open PySem PySem.W PyProof.Rows PySem.Calls

noncomputable def colGo (size : Int) : List Int → Int → Int
  | [], c => c
  | r :: rs, c => colGo size rs ((c + r).fdiv size * size + size)
noncomputable def colM (row : List Int) (tail size : Int) : Int := colGo size row 0 + tail
noncomputable def colsM (row : List Int) (tail : Int) : List Int := [colM row tail 1, colM row tail 2, colM row tail 3, colM row tail 4]
noncomputable def subL (l : List Nat) (p k : Nat) : List Nat := (l.drop p).take k
noncomputable def signAtM (l : List Nat) (p : Nat) : Int × Int :=
  match signTab.lookup (S (subL l p 3)) with
  | some k => (k, 3)
  | none => match signTab.lookup (S (subL l p 2)) with
    | some k => (k, 2)
    | none => match signTab.lookup (S (subL l p 1)) with
      | some k => (k, 1)
      | none => (0, 0)
noncomputable def overGo (ws : List Ws) (k : Nat) : Nat → Nat
  | 0 => k
  | j + 1 => if (match ws[j]?, ws[k]? with | some a, some b => lessM a b | _, _ => false) then j else overGo ws k j
noncomputable def overM (ws : List Ws) (k : Nat) : Nat := overGo ws k k

section
variable {w : Wd} {n : Nat} {sc : Scope} {κ : Env2} {ρ : Rho}
theorem small_mulR {a b : Int} (h0 : 0 ≤ b) (h : b ≤ 1000000) : IntMulOk a b := IntMulOk.of_right (intBits_le_iff.mpr (by omega))
noncomputable def colR (row : List Int) (tail : Int) (cols : List Int) (s c r : Option D) : Rho := [("row", .v (some (.list (dints row)))), ("tail", .v (some (.int tail))), ("columns", .ml (dints cols)), ("size", .v s), ("column", .v c), ("run", .v r)]
inductive ColJ (row : List Int) (tail : Int) (cols : List Int) (ρ : Rho) : Prop
  | mk (s c r : Option D) (e : ρ = colR row tail cols s c r)
inductive ColK (row : List Int) (tail : Int) (cols : List Int) (size : Int) (rest : List Int) (ρ : Rho) : Prop
  | mk (c : Int) (r : Option D) (hg : colGo size rest c = colGo size row 0) (e : ρ = colR row tail cols (some (.int size)) (some (.int c)) r)
theorem f_columns {row : List Int} {tail : Int} : CallOk w (n + 1) (.fn 203) [.list (dints row), .int tail] (kEq (.list (dints (colsM row tail)))) := by
  have O : FnOk 203 _ _ ["row", "tail"] ["columns", "size", "column", "run"] [] := ⟨fun P => ⟨_, _, _, rfl⟩, rfl, rfl, rfl, rfl, rfl, rfl, rfl, by intro P; kernel_rfl, all2 (fun a b => rfl), by decide +kernel, by kernel_rfl, (fall_nil)⟩
  refine CallOk.fn O rfl (SVs.cons <| SV.asgN <| EN.disp <| EVs.nil ⟨sz 0, (fun _ h => nomatch h), _, (put 2 rfl), ?_⟩)
  refine SVs.join (ColJ row tail (colsM row tail)) ?_ ?_
  · refine SV.forM (inj := D.int) (xs := [1, 2, 3, 4]) (fun done _ => ColJ row tail (done.map (colM row tail))) ?_ ?_ (fun _ h => h)
    · exact IV.ofD <| EV.tup <| EVs.cons <| EV.cInt <| EVs.cons <| EV.cInt <| EVs.cons <| EV.cInt <| EVs.cons <| EV.cInt <| EVs.nil ⟨sz 4, IterD.tup ⟨rfl, none, none, none, rfl⟩⟩
    · rintro done size rest _ hx ⟨s, c, r, rfl⟩
      have hs := (by decide : ∀ s ∈ ([1, 2, 3, 4] : List Int), 1 ≤ s ∧ s ≤ 4) size (mem_done hx)
      refine ⟨_, AS.name (put 3 rfl), SVs.cons <| SV.asgI <| EV.cInt ⟨rfl, _, (put 4 rfl), SVs.join (ColK row tail (done.map (colM row tail)) size []) ?_ ?_⟩⟩
      · refine SV.forM (inj := D.int) (xs := row) (fun _ => ColK row tail (done.map (colM row tail)) size) ?_ ?_ (fun _ h => h)
        · exact IV.ofD <| EV.var (.head _) <| IterD.list ⟨rfl, 0, r, rfl, rfl⟩
        · rintro _ x rest _ _ ⟨c, r, hg, rfl⟩
          refine ⟨_, AS.name (put 5 rfl), ?_⟩
          refine SVs.cons <| SV.asgI <| EV.bin <| EV.bin <| EV.bin <| EV.bin <| EV.var (ix 4 rfl) <| EV.var (ix 5 rfl) <| add_i <| EV.var (ix 3 rfl) <| fdiv_i (by omega) <| EV.var (ix 3 rfl) <| mul_i (small_mulR (by omega) (by omega)) <| EV.var (ix 3 rfl) <| add_i ⟨rfl, _, (put 4 rfl), SVs.nil ?_⟩
          exact ⟨_, some (.int x), hg, rfl⟩
      · rintro _ ⟨c, r, hg, rfl⟩
        refine SVs.cons <| SV.append (hi := (by intro env h g; cases env; subst h; rfl)) (ix 2 rfl) (by rw [dints_len, List.length_map]; exact len_done hx (sz 4)) <| EV.bin <| EV.var (ix 4 rfl) <| EV.var (ix 1 rfl) <| add_i ⟨rfl, _, (put 2 rfl), SVs.nil ?_⟩
        obtain rfl : c = colGo size row 0 := hg
        refine ⟨some (.int size), some (.int (colGo size row 0)), r, ?_⟩
        rw [List.map_append]
        exact congrArg (fun l => putAt (colR row tail [] (some (.int size)) (some (.int (colGo size row 0))) r) 2 (.ml l)) (dints_app (done.map (colM row tail)) [colM row tail size])
  · rintro _ ⟨s, c, r, rfl⟩
    exact SVs.freeze (ix 2 rfl) (put 2 rfl) <| SVs.cons <| SV.ret <| EV.var (ix 2 rfl) rfl

/-- the signs tried, of these lengths -/
noncomputable def signGo (l : List Nat) (p : Nat) (rest : List Int) : Int × Int := rest.foldr (fun k r => match signTab.lookup (S (subL l p k.toNat)) with | some v => (v, k) | none => r) (0, 0)
noncomputable def signR (l : List Nat) (p : Nat) (o : Option D) : Rho := [("text", .v (some (.str (S l)))), ("place", .v (some (.int p))), ("size", .v o)]
inductive SignI (l : List Nat) (p : Nat) (rest : List Int) (ρ : Rho) : Prop
  | mk (o : Option D) (hg : signGo l p rest = signAtM l p) (e : ρ = signR l p o)
theorem signGo_cons {l : List Nat} {p : Nat} {k : Int} {rest : List Int} : signGo l p (k :: rest) = match signTab.lookup (S (subL l p k.toNat)) with | some v => (v, k) | none => signGo l p rest := rfl
theorem sub_slice {l : List Nat} {p : Nat} {k : Int} (h : 0 ≤ k) : Txt.slice (S l) (some (p : Int)) (some ((p : Int) + k)) = S (subL l p k.toNat) := by
  obtain ⟨m, rfl⟩ := Int.eq_ofNat_of_zero_le h
  exact (S_slice l (Int.natCast_nonneg p) (Int.natCast_nonneg (p + m))).trans (congrArg (fun k => S ((l.drop p).take k)) (show p + m - p = m from Nat.add_sub_cancel_left ..))
theorem kTxt.sub {Q : D → Prop} {l : List Nat} {p : Nat} {k : Int} (h : 0 ≤ k) (q : Q (.str (S (subL l p k.toNat)))) : kTxt Q (S l) (some (p : Int)) (some ((p : Int) + k)) := by
  unfold kTxt
  rw [sub_slice h]
  exact q
theorem f_sign_at {l : List Nat} {p : Nat} (hl : l.length ≤ 1000000) : CallOk w (n + 1) (.fn 210) [.str (S l), .int p] (kEq (.tup [.int (signAtM l p).1, .int (signAtM l p).2])) := by
  have O : FnOk 210 _ _ ["text", "place"] ["size"] [("EXACT_TOKEN_TYPES", .fn 151)] := ⟨fun P => ⟨_, _, _, rfl⟩, rfl, rfl, rfl, rfl, rfl, rfl, rfl, by intro P; kernel_rfl, all2 (fun a b => rfl), by decide +kernel, by kernel_rfl, (fall ⟨by kernel_rfl, g_EXACT_TOKEN_TYPES⟩ <| fall_nil)⟩
  have hz : (S l).length ≤ sizeLine := by rw [S_len]; exact Nat.le_trans hl (by decide)
  refine CallOk.fn O rfl (SVs.join (SignI l p []) ?_ ?_)
  · refine SV.forM (inj := D.int) (xs := [3, 2, 1]) (fun _ => SignI l p) ?_ ?_ (fun _ h => h)
    · exact IV.ofD <| EV.tup <| EVs.cons <| EV.cInt <| EVs.cons <| EV.cInt <| EVs.cons <| EV.cInt <| EVs.nil ⟨sz 3, IterD.tup ⟨rfl, none, rfl, rfl⟩⟩
    · rintro done k rest _ hx ⟨o, hg, rfl⟩
      have hk := (by decide : ∀ s ∈ ([3, 2, 1] : List Int), 0 ≤ s) k (mem_done hx)
      rw [signGo_cons] at hg
      refine ⟨_, AS.name (put 2 rfl), ?_⟩
      refine SVs.cons <| SV.if <| TV.cmp <| EV.sliS <| EV.var (.head _) ⟨_, rfl, hz, EP.som <| EV.var (ix 1 rfl) ⟨_, rfl, EP.som <| EV.bin <| EV.var (ix 1 rfl) <| EV.var (ix 2 rfl) <| add_i ⟨_, rfl, kTxt.sub hk <| EV.con (.head _) <| in_tab <| tru_b ?_⟩⟩⟩
      cases hlk : signTab.lookup (S (subL l p k.toNat)) with
      | some v =>
        rw [hlk] at hg
        refine yesB rfl <| SVs.cons <| SV.ret <| EV.tup <| EVs.cons <| EV.sub <| EV.con (.head _) <| EV.sliS <| EV.var (.head _) ⟨_, rfl, hz, EP.som <| EV.var (ix 1 rfl) ⟨_, rfl, EP.som <| EV.bin <| EV.var (ix 1 rfl) <| EV.var (ix 2 rfl) <| add_i ⟨_, rfl, kTxt.sub hk <| item_tab hlk <| EVs.cons <| EV.var (ix 2 rfl) <| EVs.nil ⟨sz 2, ?_⟩⟩⟩⟩
        rw [← hg]; rfl
      | none =>
        rw [hlk] at hg
        exact noB rfl <| SVs.nil <| SVs.nil ⟨some (.int k), hg, rfl⟩
  · rintro _ ⟨o, hg, rfl⟩
    exact SVs.cons <| SV.ret <| EV.tup <| EVs.cons <| EV.cInt <| EVs.cons <| EV.cInt <| EVs.nil ⟨sz 2, by rw [← hg]; rfl⟩
end
end Mine
end

noncomputable section
--# Lc4
namespace Mine
open PySem PySem.W PyProof.Rows PySem.Calls
section
variable {w : Wd} {n : Nat} {sc : Scope} {κ : Env2} {ρ : Rho} {K : Fl → Rho → Prop} {env : Env} {F W : Nat → Prop} {ad : Str → Nat} {s : Shared}
/-- x = [e for .. in ..], a list that the frame goes on to change -/
theorem SV.asgCompN {x : Str} {p cpos pos : Pos} {elt : Expr} {g : Comprehension} {gs : List Comprehension} {csc : Scope} {κc : Env2} {ρc : Rho} (B : BlockOk csc sc κ (dropMl ρ) κc ρc) (ha : g.is_async = 0)
    (h : IV w n sc κ (dropMl ρ) g.target g.iter (kBlk w n sc κc ρc elt (g :: gs) csc cpos g.target (kAsgN ρ x K)))
    (hs1 : ∀ env x, foldedSetIterable g.iter env x = pure x := by intro _ _; rfl) : SV w n sc κ ρ (.Assign [.Name x p] (.ListComp elt (g :: gs) csc cpos) pos) K := by
  have hsw : ∀ env, ∃ bb, swapsWith (.ListComp elt (g :: gs) csc cpos) (some (.Name x p)) pos.line env = pure bb := fun env => ⟨_, rfl⟩
  have hEN := EN.comp (n := n) (pos := cpos) B ha h hs1
  obtain ⟨tgt, iter, ifs, as⟩ := g
  obtain rfl : as = 0 := ha
  constructor
  intro A env F W ad s hs b f R
  obtain ⟨bb, hbb⟩ := hsw env
  cases bb with
  | false =>
    refine wpAny_Assign_Name (wpAny_mono (hEN.run A env F s hs b f R.rd0) (fun v s1 p1 => ?_) fun _ _ x => x) hbb
    obtain ⟨G1, a, vs, ds, rfl, ⟨hi, ρ', P, k⟩, ha, hg, hl, r, x1⟩ := p1
    obtain ⟨R1, y1⟩ := R.ext0 x1
    exact R1.storeN P (R.inv.own ha) (R.nayW ha) (fun h => hg h.1) hl (r.imm hi) hi fun s2 R2 av => .on k R2 ((y1.trans (av.stp R1.wthere)).plus ha R2.wthere)
  | true =>
    rw [exec_Assign_Name_used _ _ _ _ hbb]
    refine wpAny_bind (wpAny_standAt ?_)
    show wpAny _ _ ((comprehension (.ListComp elt (⟨tgt, iter, ifs, 0⟩ :: gs) csc cpos) csc env _ (newList []) false (eval iter env) (some (assign (.Name x p) env)) >>= fun _ => pure ()) >>= fun _ => pure Flow.next) _ _ _
    refine wpAny_bind (wpAny_bind (wpAny_mono (Q := fun _ s' => PS w env κ F W s K .next s') ?_ (fun _ _ h => wpAny_pure (wpAny_pure h)) fun _ _ x => x))
    refine comp_core (use := some (assign (.Name x p) env)) (g := ⟨tgt, iter, ifs, 0⟩) B h hs b f R.rd0 (fun s' C D₀ q => ?_) hs1
    obtain ⟨G', m, vs, ds, ⟨hi, ρ', P, k⟩, hD, nD, hl, r, x, hn, hC, nC, oC, hne⟩ := q
    obtain ⟨R1, y1⟩ := R.ext0 x
    refine PyProof.Rows.assign_Name (R1.storeN P (R.inv.own hD) (R.nayW hD) (fun h => nD h.1) hl (r.imm hi) hi fun s2 R2 a => ?_)
    have hn2 : s2.heap.Ns C m := hn.at fun o e => a.keep _ o e (R.nayW hC) oC.notTab
    have nF : ¬ Bar G' W C := fun h => nC h.1
    have nW : ¬ Plus W D₀ C := fun h => h.elim (R.nayW hC) hne
    exact ⟨m, hn2, fun h' hsb => .on k (R2.clear hn2 oC nF nW (R.cellNew fun _ e => e ▸ hC) hsb) (((y1.trans (a.stp R1.wthere)).plus hD R2.wthere).clear hC oC nF nW hsb)⟩
end
end Mine
end

noncomputable section
--# Wb8
namespace Mine
open PySem PySem.W PyProof.Rows PySem.Calls

noncomputable def dws (ws : List Ws) : D := .list (ws.map Ws.d)
section
variable {w : Wd} {n : Nat} {sc : Scope} {κ : Env2} {ρ : Rho}
theorem item_w {value slice : Expr} {ws : List Ws} {i : Nat} {x : Ws} {Q : D → Prop} (hx : ws[i]? = some x) (hf : i < 1000000) (q : Q x.d)
    (hs : ∀ o i, subscripted slice false o i = operate [o, i] (getItem o i) := by intro _ _; rfl) : Op2 w n (subscriptTail value slice) (dws ws) (.int i) Q :=
  item_l (j := 0) (Int.natCast_nonneg i) (Int.lt_trans (Int.ofNat_lt.mpr hf) (by decide)) (d := x.d) ((List.getElem?_map ..).trans (congrArg (Option.map Ws.d) hx)) q hs
/-- a loop that counts down -/
noncomputable def downD (v : Nat → Int) : Nat → List D
  | 0 => []
  | k + 1 => .int (v k) :: downD v k
theorem arD_down {v : Nat → Int} (hv : ∀ k, v (k + 1) + -1 = v k) (k : Nat) : ∀ a, (∀ j, k = j + 1 → a = v j) → arD a (-1) k = downD v k :=
  Nat.rec (fun _ _ => rfl) (fun k ih a h => (h k rfl).symm ▸ congrArg (D.int (v k) :: ·) (ih _ fun j e => e ▸ hv j)) k
inductive Down (v : Nat → Int) (I : Nat → Rho → Prop) (ds : List D) (ρ : Rho) : Prop
  | mk (k : Nat) (hd : ds = downD v k) (i : I k ρ)
abbrev kDown (v : Nat → Int) (I : Nat → Rho → Prop) (ρ : Rho) (ds : List D) : Prop := Down v I ds ρ
theorem SV.forDown {v : Nat → Int} {tgt iter : Expr} {body : List Stmt} {pos : Pos} {K : Fl → Rho → Prop} (I : Nat → Rho → Prop) (h : IV w n sc κ (dropMl ρ) tgt iter (kDown v I ρ))
    (hI : ∀ k ρ, I (k + 1) ρ → kTurnM w n sc κ tgt body (.int (v k)) (I k) K ρ) (hE : ∀ ρ, I 0 ρ → K .next ρ)
    (hs1 : ∀ env x, foldedSetIterable iter env x = pure x := by intro _ _; rfl) : SV w n sc κ ρ (.For tgt iter body [] pos) K :=
  SV.for (Down v I) h (fun d ds ρ m => by
    obtain ⟨k, hd, i⟩ := m
    cases k with
    | zero => cases hd
    | succ k =>
      obtain ⟨rfl, rfl⟩ := List.cons.inj hd
      obtain ⟨ρ1, as, h⟩ := hI k ρ i
      exact ⟨ρ1, as, h.mono fun f ρ' => Fl.casesOn (motive := fun f => kLoop (I k) K f ρ' → kLoop (Down v I (downD v k)) K f ρ') f (fun i => ⟨_, rfl, i⟩) id (fun i => ⟨_, rfl, i⟩) fun _ => id⟩)
    (fun ρ m => by
    obtain ⟨k, hd, i⟩ := m
    cases k with
    | zero => exact hE ρ i
    | succ k => cases hd) hs1
theorem overGo_le (ws : List Ws) (k j : Nat) : j ≤ k → overGo ws k j ≤ k :=
  Nat.rec (motive := fun j => j ≤ k → overGo ws k j ≤ k) (fun _ => Nat.le_refl k) (fun j ih h => iteInduction (motive := fun v => v ≤ k) (fun _ => Nat.le_of_lt h) fun _ => ih (Nat.le_of_lt h)) j
noncomputable def overR (ws : List Ws) (k : Nat) (j t : Option D) : Rho := [("leads", .v (some (dws ws))), ("k", .v (some (.int k))), ("j", .v j), ("told", .v t)]
inductive OverI (ws : List Ws) (k j : Nat) (ρ : Rho) : Prop
  | mk (oj t : Option D) (hj : j ≤ k) (hg : overGo ws k j = overM ws k) (e : ρ = overR ws k oj t)
theorem overGo_on {ws : List Ws} {k j : Nat} {x y : Ws} (hx : ws[j]? = some x) (hy : ws[k]? = some y) : overGo ws k (j + 1) = if lessM x y then j else overGo ws k j := by
  rw [overGo, hx, hy]
theorem f_over {ws : List Ws} {k : Nat} (hw : ∀ x ∈ ws, WsOk x) (hk : k < ws.length) (hl : ws.length ≤ 1000) : CallOk w (n + 3) (.fn 217) [dws ws, .int k] (kEq (.int (overM ws k : Nat))) := by
  have O : FnOk 217 _ _ ["leads", "k"] ["j", "told"] [("range", .ty "range")] := ⟨fun P => ⟨_, _, _, rfl⟩, rfl, rfl, rfl, rfl, rfl, rfl, rfl, by intro P; kernel_rfl, all2 (fun a b => rfl), by decide +kernel, by kernel_rfl, (fall ⟨by kernel_rfl, g_range⟩ <| fall_nil)⟩
  have hy := List.getElem?_eq_getElem hk
  have big : ∀ {j : Nat}, j ≤ k → j < 1000000 := fun h => Nat.lt_of_le_of_lt h (Nat.lt_of_lt_of_le hk (Nat.le_trans hl (by decide)))
  refine CallOk.fn O rfl (SVs.join (OverI ws k 0) ?_ ?_)
  · refine SV.forDown (v := fun k => (k : Int)) (OverI ws k) ?_ ?_ (fun _ h => h)
    · have hb := big (Nat.le_refl k)
      refine IV.call <| EV.con (.head _) ⟨KeepOk.ty, EVs.cons <| EV.bin <| EV.var (ix 1 rfl) <| EV.cInt <| sub_i <| EVs.cons <| EV.una <| EV.cInt <| neg_i <| EVs.cons <| EV.una <| EV.cInt <| neg_i <| EVs.nil <| range_3 (by omega) (by omega) (by decide) (by decide) ?_⟩
      rw [show ((k : Int) - 1 - -1).toNat = k by omega]
      exact ⟨k, arD_down (fun k => Int.add_neg_cancel_right k 1) k _ fun j e => e ▸ Int.add_sub_cancel j 1, none, none, Nat.le_refl _, rfl, rfl⟩
    · rintro j _ ⟨oj, ot, hj, hg, rfl⟩
      have hx := List.getElem?_eq_getElem (Nat.lt_trans hj hk)
      rw [overGo_on hx hy] at hg
      refine ⟨_, AS.name (put 2 rfl), ?_⟩
      refine SVs.cons <| SV.asg <| EV.meth <| EV.sub <| EV.var (.head _) <| EV.var (ix 2 rfl) <| item_w hx (big (Nat.le_of_lt hj)) ⟨_, m_less, k136, EVs.cons <| EV.sub <| EV.var (.head _) <| EV.var (ix 1 rfl) <| item_w hy (big (Nat.le_refl k)) <| EVs.nil <| CallOk.to (f_less (hw _ (List.getElem_mem _)) (hw _ (List.getElem_mem _))) ?_⟩
      refine ⟨_, (put 3 rfl), SVs.cons <| SV.if <| TV.cmp <| EV.var (ix 3 rfl) <| EV.cBool <| is_b <| tru_b ?_⟩
      cases hless : lessM (ws[j]'(Nat.lt_trans hj hk)) (ws[k]'hk) with
      | true =>
        rw [hless] at hg
        refine yesB rfl <| SVs.cons <| SV.ret <| EV.var (ix 2 rfl) ?_
        rw [← hg]; rfl
      | false =>
        rw [hless] at hg
        exact noB rfl <| SVs.nil <| SVs.cons <| SV.if <| TV.cmp <| EV.var (ix 3 rfl) <| EV.cBool <| isNot_b <| tru_b <| noB rfl <| SVs.nil <| SVs.nil ⟨some (.int j), some (.bool false), Nat.le_of_lt hj, hg, rfl⟩
  · rintro _ ⟨j, t, _, he, rfl⟩
    exact SVs.cons <| SV.ret <| EV.var (ix 1 rfl) (congrArg (fun k : Nat => D.int k) he)

/-- a step over the page, from behind -/
noncomputable def pgStep (ws : List Ws) (nums : List Int) (x : Int) (k : Nat) (b f : List Int) : List Int × List Int :=
  let o := overM ws k
  let full := x * b.getD k 0 + f.getD k 0
  (b.set o (b.getD o 0 * full), f.set o (f.getD o 0 * full + nums.getD k 0 * b.getD k 0 * b.getD o 0))
noncomputable def pgGo (ws : List Ws) (nums : List Int) (x : Int) : Nat → List Int → List Int → List Int × List Int
  | 0, b, f => (b, f)
  | k + 1, b, f => pgGo ws nums x k (pgStep ws nums x (k + 1) b f).1 (pgStep ws nums x (k + 1) b f).2
noncomputable def PgOk (ws : List Ws) (nums : List Int) (x : Int) : Nat → List Int → List Int → Prop
  | 0, b, f => IntMulOk x (b.getD 0 0)
  | k + 1, b, f => IntMulOk x (b.getD (k + 1) 0) ∧ IntMulOk (f.getD (overM ws (k + 1)) 0) (x * b.getD (k + 1) 0 + f.getD (k + 1) 0) ∧ IntMulOk (nums.getD (k + 1) 0) (b.getD (k + 1) 0)
    ∧ IntMulOk (nums.getD (k + 1) 0 * b.getD (k + 1) 0) (b.getD (overM ws (k + 1)) 0) ∧ IntMulOk (b.getD (overM ws (k + 1)) 0) (x * b.getD (k + 1) 0 + f.getD (k + 1) 0)
    ∧ PgOk ws nums x k (pgStep ws nums x (k + 1) b f).1 (pgStep ws nums x (k + 1) b f).2
noncomputable def pageM (ws : List Ws) (nums : List Int) (x : Int) : Int :=
  let r := pgGo ws nums x (ws.length - 1) (ws.map fun _ => 1) (ws.map fun _ => 0)
  x * r.1.getD 0 0 + r.2.getD 0 0
theorem dints_set (l : List Int) (i : Nat) (v : Int) : (dints l).set i (.int v) = dints (l.set i v) := List.map_set.symm
theorem item_n {value slice : Expr} {ns : List Int} {i : Nat} {Q : D → Prop} (hl : i < ns.length) (hf : i < 1000000) (q : Q (.int (ns.getD i 0)))
    (hs : ∀ o i, subscripted slice false o i = operate [o, i] (getItem o i) := by intro _ _; rfl) : Op2 w n (subscriptTail value slice) (.list (dints ns)) (.int i) Q :=
  item_i (Int.natCast_nonneg i) (Int.ofNat_lt.mpr hl) (Int.lt_trans (Int.ofNat_lt.mpr hf) (by decide)) q hs
theorem lt_dints {l : List Int} {m i : Nat} (h : l.length = m) (hi : i < m) : i < (dints l).length := Nat.lt_of_lt_of_eq hi (h.symm.trans (dints_len l).symm)
theorem dints_imm (l : List Int) : ∀ d ∈ dints l, d.imm = true := fun d hd => (List.mem_map.mp hd).elim fun _ h => h.2 ▸ rfl
theorem dints_const {α : Type} (l : List α) (k : Int) : (l.map fun _ => D.int k) = dints (l.map fun _ => k) := (List.map_map ..).symm
noncomputable def pageR (ws : List Ws) (nums : List Int) (x : Int) (b f : List Int) (k o u : Option D) : Rho := [("leads", .v (some (dws ws))), ("numbers", .v (some (.list (dints nums)))), ("x", .v (some (.int x))), ("bare", .ml (dints b)), ("first", .ml (dints f)), ("k", .v k), ("over", .v o), ("full", .v u)]
inductive PageI (ws : List Ws) (nums : List Int) (x : Int) (r : List Int × List Int) (k : Nat) (ρ : Rho) : Prop
  | mk (b f : List Int) (ok oo ou : Option D) (hk : k < ws.length) (lb : b.length = ws.length) (lf : f.length = ws.length) (hp : PgOk ws nums x k b f) (hg : pgGo ws nums x k b f = r) (e : ρ = pageR ws nums x b f ok oo ou)
theorem pgStep_len {ws : List Ws} {nums : List Int} {x : Int} {k : Nat} {b f : List Int} : (pgStep ws nums x k b f).1.length = b.length ∧ (pgStep ws nums x k b f).2.length = f.length := ⟨List.length_set .., List.length_set ..⟩
theorem f_by_page {ws : List Ws} {nums : List Int} {x : Int} (hw : ∀ y ∈ ws, WsOk y) (h0 : 0 < ws.length) (hl : ws.length ≤ 1000) (hn : nums.length = ws.length)
    (hp : PgOk ws nums x (ws.length - 1) (ws.map fun _ => 1) (ws.map fun _ => 0)) : CallOk w (n + 4) (.fn 222) [dws ws, .list (dints nums), .int x] (kEq (.int (pageM ws nums x))) := by
  have O : FnOk 222 _ _ ["leads", "numbers", "x"] ["bare", "first", "k", "over", "full"] [("_law_over", .fn 217), ("len", .bi "len"), ("range", .ty "range")] := ⟨fun P => ⟨_, _, _, rfl⟩, rfl, rfl, rfl, rfl, rfl, rfl, rfl, by intro P; kernel_rfl, all3 (fun a b c => rfl), by decide +kernel, by kernel_rfl, (fall ⟨by kernel_rfl, g_law_over⟩ <| fall ⟨by kernel_rfl, g_len⟩ <| fall ⟨by kernel_rfl, g_range⟩ <| fall_nil)⟩
  have hz2 : ws.length ≤ sizeLine := Nat.le_trans hl (sz 1000)
  have hz : (ws.map Ws.d).length ≤ sizeLine := Nat.le_trans (Nat.le_of_eq (List.length_map _)) hz2
  have big : ∀ {j : Nat}, j < ws.length → j < 1000000 := fun h => Nat.lt_of_lt_of_le h (Nat.le_trans hl (by decide))
  have big2 : ∀ {j : Nat}, j < ws.length → (j : Int) < 2 ^ 63 := fun h => Int.lt_trans (Int.ofNat_lt.mpr (big h)) (by decide)
  refine CallOk.fn O rfl ?_
  refine SVs.cons <| SV.asgCompN (κc := []) (ρc := [("lead", .v none)]) ⟨rfl, by kernel_rfl, by decide +kernel, by kernel_rfl, by kernel_rfl, by decide +kernel, fun x d h => nomatch h⟩ rfl ?_
  refine IV.ofD <| EV.var (.head _) <| IterD.list <| CB.map1 (inj := Ws.d) (f := fun _ => .int 1) hz2 (fun a _ => EV.cInt rfl) ?_
  rw [dints_const]
  refine ⟨dints_imm _, _, (put 3 rfl), ?_⟩
  refine SVs.cons <| SV.asgCompN (κc := []) (ρc := [("lead", .v none)]) ⟨rfl, by kernel_rfl, by decide +kernel, by kernel_rfl, by kernel_rfl, by decide +kernel, fun x d h => nomatch h⟩ rfl ?_
  refine IV.ofD <| EV.var (.head _) <| IterD.list <| CB.map1 (inj := Ws.d) (f := fun _ => .int 0) hz2 (fun a _ => EV.cInt rfl) ?_
  rw [dints_const]
  refine ⟨dints_imm _, _, (put 4 rfl), ?_⟩
  have hpm : pageM ws nums x = x * (pgGo ws nums x (ws.length - 1) (ws.map fun _ => 1) (ws.map fun _ => 0)).1.getD 0 0 + (pgGo ws nums x (ws.length - 1) (ws.map fun _ => 1) (ws.map fun _ => 0)).2.getD 0 0 := rfl
  rw [hpm]
  generalize hr : pgGo ws nums x (ws.length - 1) (ws.map fun _ => 1) (ws.map fun _ => 0) = r
  refine SVs.join (PageI ws nums x r 0) ?_ ?_
  · refine SV.forDown (v := fun k => (k + 1 : Nat)) (PageI ws nums x r) ?_ ?_ (fun _ h => h)
    · refine IV.call <| EV.con (ix 2 rfl) ⟨KeepOk.ty, EVs.cons <| EV.bin <| EV.call <| EV.con (ix 1 rfl) ⟨KeepOk.bi, EVs.cons <| EV.var (.head _) <| EVs.nil <| len_l hz <| EV.cInt <| sub_i <| EVs.cons <| EV.cInt <| EVs.cons <| EV.una <| EV.cInt <| neg_i <| EVs.nil ?_⟩⟩
      rw [List.length_map]
      refine range_3 (by omega) (by omega) (by decide) (by decide) ?_
      rw [show ((ws.length : Int) - 1 - 0).toNat = ws.length - 1 by omega]
      exact ⟨_, arD_down (fun k => Int.add_neg_cancel_right (k + 1 : Nat) 1) _ _ fun j e => by omega, _, _, none, none, none, Nat.sub_lt h0 (by decide), List.length_map _, List.length_map _, hp, hr, rfl⟩
    · rintro k _ ⟨b, f, ok, oo, ou, hk, lb, lf, ⟨m1, m2, m3, m4, m5, hP2⟩, hg, rfl⟩
      have ho : overM ws (k + 1) < ws.length := Nat.lt_of_le_of_lt (overGo_le ws (k + 1) (k + 1) (Nat.le_refl _)) hk
      refine ⟨_, AS.name (put 5 rfl), ?_⟩
      refine SVs.cons <| SV.asg <| EV.call <| EV.con (.head _) ⟨k217, EVs.cons <| EV.var (.head _) <| EVs.cons <| EV.var (ix 5 rfl) <| EVs.nil <| CallOk.to (f_over hw hk hl) ⟨_, (put 6 rfl), ?_⟩⟩
      refine SVs.cons <| SV.asgI <| EV.bin <| EV.bin <| EV.var (ix 2 rfl) <| EV.sub <| EV.varL (ix 3 rfl) <| EV.var (ix 5 rfl) <| item_n (lb ▸ hk) (big hk) <| mul_i m1 <| EV.sub <| EV.varL (ix 4 rfl) <| EV.var (ix 5 rfl) <| item_n (lf ▸ hk) (big hk) <| add_i ⟨rfl, _, (put 7 rfl), ?_⟩
      refine SVs.cons <| SV.setItem (ix 4 rfl) <| EV.bin <| EV.bin <| EV.sub <| EV.varL (ix 4 rfl) <| EV.var (ix 6 rfl) <| item_n (lf ▸ ho) (big ho) <| EV.var (ix 7 rfl) <| mul_i m2 <| EV.bin <| EV.bin <| EV.sub <| EV.var (ix 1 rfl) <| EV.var (ix 5 rfl) <| item_n (hn ▸ hk) (big hk) <| EV.sub <| EV.varL (ix 3 rfl) <| EV.var (ix 5 rfl) <| item_n (lb ▸ hk) (big hk) <| mul_i m3 <| EV.sub <| EV.varL (ix 3 rfl) <| EV.var (ix 6 rfl) <| item_n (lb ▸ ho) (big ho) <| mul_i m4 <| add_i ⟨rfl, EV.var (ix 6 rfl) ⟨_, rfl, lt_dints lf ho, big2 ho, _, (put 4 rfl), ?_⟩⟩
      refine SVs.cons <| SV.setItem (ix 3 rfl) <| EV.bin <| EV.sub <| EV.varL (ix 3 rfl) <| EV.var (ix 6 rfl) <| item_n (lb ▸ ho) (big ho) <| EV.var (ix 7 rfl) <| mul_i m5 ⟨rfl, EV.var (ix 6 rfl) ⟨_, rfl, lt_dints lb ho, big2 ho, _, (put 3 rfl), ?_⟩⟩
      rw [dints_set, dints_set]
      exact SVs.nil ⟨_, _, _, _, _, Nat.lt_of_succ_lt hk, pgStep_len.1.trans lb, pgStep_len.2.trans lf, hP2, hg, rfl⟩
  · rintro _ ⟨b, f, k, o, u, _, lb, lf, hm, rfl, rfl⟩
    exact SVs.cons <| SV.retI <| EV.bin <| EV.bin <| EV.var (ix 2 rfl) <| EV.sub <| EV.varL (ix 3 rfl) <| EV.cInt <| item_n (i := 0) (lb ▸ h0) (by decide) <| mul_i hm <| EV.sub <| EV.varL (ix 4 rfl) <| EV.cInt <| item_n (i := 0) (lf ▸ h0) (by decide) <| add_i ⟨rfl, rfl⟩
end
end Mine
end

noncomputable section
--# Wb9
namespace Mine
open PySem PySem.W PyProof.Rows PySem.Calls

noncomputable def stripGo (l : List Nat) : List (Nat × Str) → Nat → Option Nat → List (List Nat) → Nat × List (List Nat)
  | [], st, _, res => (st, res)
  | p :: ps, st, op, res =>
    if p.2 = S [34] then
      match op with
      | none => stripGo l ps st (some p.1) res
      | some o => stripGo l ps (p.1 + 1) none (if st = o then res else res ++ [(l.drop st).take (o - st)])
    else stripGo l ps st op res
theorem stripGo_cons (l : List Nat) (p : Nat × Str) (ps : List (Nat × Str)) (st : Nat) (op : Option Nat) (res : List (List Nat)) : stripGo l (p :: ps) st op res = if p.2 = S [34] then (match op with | none => stripGo l ps st (some p.1) res | some o => stripGo l ps (p.1 + 1) none (if st = o then res else res ++ [(l.drop st).take (o - st)])) else stripGo l ps st op res := by
  cases op <;> rfl
noncomputable def stripM (l : List Nat) : List Nat :=
  if 34 ∈ l then
    let r := stripGo l (escI false 0 l) 0 none []
    (r.2 ++ if r.1 < l.length then [l.drop r.1] else []).flatten
  else l
noncomputable def checkGo : List (Nat × Str) → Int → Bool
  | [], o => decide (o = 0)
  | p :: ps, o => if p.2 = S [40] then checkGo ps (o + 1) else if p.2 = S [41] then (if o - 1 < 0 then false else checkGo ps (o - 1)) else checkGo ps o
noncomputable def checkM (l : List Nat) : Bool := checkGo (escI false 0 (stripM l)) 0
theorem escI_len (l : List Nat) : ∀ (e : Bool) (i : Nat), (escI e i l).length ≤ l.length + 1 :=
  List.rec (motive := fun l => ∀ (e : Bool) (i : Nat), (escI e i l).length ≤ l.length + 1) (fun e i => Bool.casesOn e (Nat.zero_le _) (Nat.le_refl _))
    (fun c l ih e i => Bool.casesOn e (iteInduction (motive := fun x : List (Nat × Str) => x.length ≤ _) (fun _ => Nat.le_succ_of_le (ih true (i + 1))) fun _ => Nat.succ_le_succ (ih false (i + 1))) (Nat.succ_le_succ (ih false (i + 1)))) l
theorem flatten_le {ls : List (List Nat)} {m : Nat} : (∀ x ∈ ls, x.length ≤ m) → ls.flatten.length ≤ ls.length * m :=
  List.rec (motive := fun ls => (∀ x ∈ ls, x.length ≤ m) → ls.flatten.length ≤ ls.length * m) (fun _ => Nat.zero_le _)
    (fun a ls ih h => Nat.le_trans (Nat.le_of_eq List.length_append) (Nat.le_trans (Nat.add_le_add (h a (.head _)) (ih fun x hx => h x (.tail _ hx))) (Nat.le_of_eq ((Nat.add_comm ..).trans (Nat.succ_mul ..).symm)))) ls

section
variable {w : Wd} {n : Nat} {sc : Scope} {κ : Env2} {ρ : Rho}
noncomputable def oD (o : Option Nat) : D := match o with | none => .none | some k => .int k
noncomputable def stripR (l : List Nat) (st : Nat) (op : Option Nat) (res : List (List Nat)) (p c : Option D) : Rho := [("addr", .v (some (.str (S l)))), ("start", .v (some (.int st))), ("open_pos", .v (some (oD op))), ("result", .ml (dchars res)), ("pos", .v p), ("ch", .v c)]
abbrev ResOk (l : List Nat) (k : Nat) (res : List (List Nat)) : Prop := res.length ≤ k ∧ ∀ x ∈ res, x.length ≤ l.length
theorem ResOk.up {l : List Nat} {k : Nat} {res : List (List Nat)} (h : ResOk l k res) : ResOk l (k + 1) res := h.elim fun a b => ⟨Nat.le_succ_of_le a, b⟩
theorem ResOk.add {l x : List Nat} {k : Nat} {res : List (List Nat)} (h : ResOk l k res) (hx : x.length ≤ l.length) : ResOk l (k + 1) (res ++ [x]) := h.elim fun a b =>
  ⟨(List.length_append ..) ▸ Nat.succ_le_succ a, fun y hy => (List.mem_append.mp hy).elim (b y) fun q => List.mem_singleton.mp q ▸ hx⟩
theorem ResOk.sz {l : List Nat} {k : Nat} {res : List (List Nat)} (h : ResOk l k res) (hk : k ≤ 4000) : (dchars res).length ≤ sizeLine := h.elim fun a _ => Nat.le_trans (Nat.le_of_eq (List.length_map _)) (Nat.le_trans a (Nat.le_trans hk (by decide)))
noncomputable def resA (l : List Nat) (st o : Nat) (res : List (List Nat)) : List (List Nat) := if st = o then res else res ++ [(l.drop st).take (o - st)]
theorem ResOk.addA {l : List Nat} {k st o : Nat} {res : List (List Nat)} (h : ResOk l k res) : ResOk l (k + 1) (resA l st o res) :=
  iteInduction (motive := fun r => ResOk l (k + 1) r) (fun _ => h.up) fun _ => h.add (Nat.le_trans (List.length_take_le' ..) (Nat.le_trans (Nat.le_of_eq List.length_drop) (Nat.sub_le ..)))
theorem strip_put {res : List (List Nat)} {y : Str} {x : List Nat} (e : y = S x) : dchars res ++ [D.str y] = dchars (res ++ [x]) := (congrArg (fun y => dchars res ++ [D.str y]) e).trans (List.map_append (f := fun l => D.str (S l)) (l₁ := res) (l₂ := [x])).symm
inductive StripI (l : List Nat) (r : Nat × List (List Nat)) (done ps : List (Nat × Str)) (ρ : Rho) : Prop
  | mk (st : Nat) (op : Option Nat) (res : List (List Nat)) (p c : Option D) (hr : ResOk l done.length res) (hg : stripGo l ps st op res = r) (e : ρ = stripR l st op res p c)
theorem one_more {α : Type} {l : List α} {a : α} : (l ++ [a]).length = l.length + 1 := List.length_append
theorem f_strip {l : List Nat} (hl : l.length ≤ 3000) : CallOk w (n + 2) (.fn 77) [.str (S l)] (kEq (.str (S (stripM l)))) := by
  have O : FnOk 77 _ _ ["addr"] ["start", "open_pos", "result", "pos", "ch"] [("_iter_escaped_chars", .fn 70), ("len", .bi "len")] := ⟨fun P => ⟨_, _, _, rfl⟩, rfl, rfl, rfl, rfl, rfl, rfl, rfl, by intro P; kernel_rfl, all1 (fun a => rfl), by decide +kernel, by kernel_rfl, (fall ⟨by kernel_rfl, g_iter_escaped_chars⟩ <| fall ⟨by kernel_rfl, g_len⟩ <| fall_nil)⟩
  have hz : (S l).length ≤ sizeLine := by rw [S_len]; exact Nat.le_trans hl (by decide)
  have hel := escI_len l false 0
  have h34 : (("\"" : Str)) = S [34] := by decide +kernel
  refine CallOk.fn O rfl ?_
  refine SVs.cons <| SV.if <| TV.cmp <| EV.cStr <| EV.var (.head _) ?_
  show Op2 w (n + 1) _ (.str "\"") _ _
  rw [h34]
  refine notIn_s <| tru_b ?_
  rw [not_in_one]
  by_cases hq : 34 ∈ l
  case neg => exact yes hq <| SVs.cons <| SV.ret <| EV.var (.head _) (congrArg (fun x => D.str (S x)) (if_neg hq).symm)
  refine no (not_not_intro hq) ?_
  refine SVs.nil <| SVs.cons <| SV.asg <| EV.cInt ⟨_, (put 1 rfl), ?_⟩
  refine SVs.cons <| SV.asg <| EV.cNone ⟨_, (put 2 rfl), ?_⟩
  refine SVs.cons <| SV.asgN <| EN.disp <| EVs.nil ⟨sz 0, (fun _ h => nomatch h), _, (put 3 rfl), ?_⟩
  have hm : stripM l = _ := if_pos hq
  generalize hr0 : stripGo l (escI false 0 l) 0 none [] = r at hm
  refine SVs.join (StripI l r (escI false 0 l) []) ?_ ?_
  · refine SV.forM (inj := dI) (xs := escI false 0 l) (StripI l r) ?_ ?_ (fun _ h => h)
    · refine IV.call <| EV.con (.head _) ⟨k70, EVs.cons <| EV.var (.head _) <| EVs.nil <| iter_i ?_ ⟨rfl, 0, none, [], none, none, ⟨Nat.le_refl 0, fun _ h => nomatch h⟩, hr0, rfl⟩⟩
      rw [S_len]; exact Nat.le_trans (Nat.succ_le_succ hl) (by decide)
    · rintro done q ps _ hx ⟨st, op, res, p, c, hr, hg, rfl⟩
      have hd : done.length ≤ 3001 := by
        rw [hx, List.length_append] at hel
        exact Nat.le_trans (Nat.le_trans (Nat.le_add_right ..) hel) (Nat.succ_le_succ hl)
      refine ⟨_, AS.pair (put 4 rfl) (put 5 rfl), ?_⟩
      refine SVs.cons <| SV.if <| TV.cmp <| EV.var (ix 5 rfl) <| EV.cStr <| eq_s <| tru_b ?_
      rw [stripGo_cons] at hg
      by_cases hc : q.2 = S [34]
      · rw [if_pos hc] at hg
        refine yes hc <| SVs.cons <| SV.if <| TV.cmp <| EV.var (ix 2 rfl) <| EV.cNone ?_
        cases op with
        | none => exact is_n (b := true) rfl <| tru_b <| yesB rfl <| SVs.cons <| SV.asgI <| EV.var (ix 4 rfl) ⟨rfl, _, (put 2 rfl), SVs.nil <| SVs.nil <| SVs.nil ⟨st, some q.1, res, _, _, one_more ▸ hr.up, hg, rfl⟩⟩
        | some o =>
          refine is_n (b := false) rfl <| tru_b <| noB rfl ?_
          refine SVs.join (· = stripR l st (some o) (resA l st o res) (some (.int q.1)) (some (.str q.2))) ?_ ?_
          · refine SV.if <| TV.cmp <| EV.var (ix 1 rfl) <| EV.var (ix 2 rfl) <| ne_i <| tru_b ?_
            by_cases hso : st = o
            · exact no (not_not_intro (congrArg Int.ofNat hso)) <| SVs.nil (congrArg (fun r => putAt (stripR l st (some o) [] (some (.int q.1)) (some (.str q.2))) 3 (.ml (dchars r))) (if_pos hso).symm)
            · refine yes (fun h => hso (Int.ofNat.inj h)) ?_
              refine SVs.cons <| SV.append (hi := (by intro env h g; cases env; subst h; rfl)) (ix 3 rfl) (hr.sz (Nat.le_trans hd (by decide))) <| EV.sliS <| EV.var (.head _) ⟨_, rfl, hz, EP.som <| EV.var (ix 1 rfl) ⟨_, rfl, EP.som <| EV.var (ix 2 rfl) ⟨_, rfl, rfl, _, (put 3 rfl), SVs.nil ?_⟩⟩⟩
              exact congrArg (fun r => putAt (stripR l st (some o) [] (some (.int q.1)) (some (.str q.2))) 3 (.ml r)) ((strip_put (S_slice l (Int.natCast_nonneg _) (Int.natCast_nonneg _))).trans (congrArg dchars (if_neg hso).symm))
          · rintro _ rfl
            refine SVs.cons <| SV.asgI <| EV.bin <| EV.var (ix 4 rfl) <| EV.cInt <| add_i ⟨rfl, _, (put 1 rfl), ?_⟩
            exact SVs.cons <| SV.asgI <| EV.cNone ⟨rfl, _, (put 2 rfl), SVs.nil <| SVs.nil <| SVs.nil ⟨q.1 + 1, none, _, _, _, one_more ▸ hr.addA, hg, rfl⟩⟩
      · rw [if_neg hc] at hg
        exact no hc <| SVs.nil <| SVs.nil ⟨st, op, res, _, _, one_more ▸ hr.up, hg, rfl⟩
  · rintro _ ⟨st, op, res, p, c, hr, rfl, rfl⟩
    have hel2 := Nat.le_trans hel (Nat.succ_le_succ hl)
    refine SVs.join (fun ρ' => ∃ res', stripM l = res'.flatten ∧ ResOk l ((escI false 0 l).length + 1) res' ∧ ρ' = stripR l st op res' p c) ?_ ?_
    · refine SV.if <| TV.cmp <| EV.var (ix 1 rfl) <| EV.call <| EV.con (ix 1 rfl) ⟨KeepOk.bi, EVs.cons <| EV.var (.head _) <| EVs.nil <| len_s hz <| lt_i <| tru_b ?_⟩
      rw [S_len]
      by_cases hs : st < l.length
      · refine yes (Int.ofNat_lt.mpr hs) ?_
        refine SVs.cons <| SV.append (hi := (by intro env h g; cases env; subst h; rfl)) (ix 3 rfl) (hr.sz (Nat.le_trans hel2 (by decide))) <| EV.sliS <| EV.var (.head _) ⟨_, rfl, hz, EP.som <| EV.var (ix 1 rfl) ⟨_, rfl, EP.non ⟨rfl, _, (put 3 rfl), SVs.nil ⟨res ++ [l.drop st], ?_, hr.add (Nat.le_trans (Nat.le_of_eq List.length_drop) (Nat.sub_le ..)), ?_⟩⟩⟩⟩
        · exact hm.trans (congrArg (fun x => (res ++ x).flatten) (if_pos hs))
        · exact congrArg (fun r => putAt (stripR l st op [] p c) 3 (.ml r)) (strip_put (S_sliceTo l (Int.natCast_nonneg _)))
      · exact no (fun h => hs (Int.ofNat_lt.mp h)) <| SVs.nil ⟨res, hm.trans ((congrArg (fun x => (res ++ x).flatten) (if_neg hs)).trans (congrArg List.flatten (List.append_nil res))), hr.up, rfl⟩
    · rintro _ ⟨res, hm, ⟨hr, hx⟩, rfl⟩
      refine SVs.freeze (ix 3 rfl) (put 3 rfl) <| SVs.cons <| SV.ret <| EV.meth <| EV.cStr ⟨_, meth_join, KeepOk.bi, EVs.cons <| EV.var (ix 3 rfl) <| EVs.nil <| join_c (ls := res) ?_ (congrArg (fun x => D.str (S x)) hm.symm)⟩
      exact Nat.le_trans (flatten_le hx) (Nat.le_trans (Nat.mul_le_mul (Nat.le_trans hr (Nat.succ_le_succ hel2)) hl) (by decide))

noncomputable def checkR (l : List Nat) (o : Int) (p c : Option D) : Rho := [("addr", .v (some (.str (S l)))), ("opens", .v (some (.int o))), ("pos", .v p), ("ch", .v c)]
inductive CheckI (l : List Nat) (r : Bool) (ps : List (Nat × Str)) (ρ : Rho) : Prop
  | mk (o : Int) (p c : Option D) (hg : checkGo ps o = r) (e : ρ = checkR l o p c)
theorem f_check {l : List Nat} (hl : l.length ≤ 3000) (hs : (stripM l).length ≤ 1000000) : CallOk w (n + 3) (.fn 84) [.str (S l)] (kEq (.bool (checkM l))) := by
  have O : FnOk 84 _ _ ["addr"] ["opens", "pos", "ch"] [("_iter_escaped_chars", .fn 70), ("_strip_quoted_realnames", .fn 77)] := ⟨fun P => ⟨_, _, _, rfl⟩, rfl, rfl, rfl, rfl, rfl, rfl, rfl, by intro P; kernel_rfl, all1 (fun a => rfl), by decide +kernel, by kernel_rfl, (fall ⟨by kernel_rfl, g_iter_escaped_chars⟩ <| fall ⟨by kernel_rfl, g_strip_quoted_realnames⟩ <| fall_nil)⟩
  have h40 : (("(" : Str)) = S [40] := by decide +kernel
  have h41 : ((")" : Str)) = S [41] := by decide +kernel
  refine CallOk.fn O rfl ?_
  refine SVs.cons <| SV.asg <| EV.call <| EV.con (ix 1 rfl) ⟨k77, EVs.cons <| EV.var (.head _) <| EVs.nil <| CallOk.to (f_strip hl) ?_⟩
  refine ⟨_, (put 0 rfl), ?_⟩
  unfold checkM
  generalize stripM l = l' at hs ⊢
  refine SVs.cons <| SV.asg <| EV.cInt ⟨_, (put 1 rfl), ?_⟩
  generalize hr : checkGo (escI false 0 l') 0 = r
  refine SVs.join (CheckI l' r []) ?_ ?_
  · refine SV.forM (inj := dI) (xs := escI false 0 l') (fun _ => CheckI l' r) ?_ ?_ (fun _ h => h)
    · refine IV.call <| EV.con (.head _) ⟨k70, EVs.cons <| EV.var (.head _) <| EVs.nil <| iter_i ?_ ⟨rfl, 0, none, none, hr, rfl⟩⟩
      rw [S_len]; exact Nat.le_trans (Nat.succ_le_succ hs) (by decide)
    · rintro done q ps _ hx ⟨o, p, c, hg, rfl⟩
      refine ⟨_, AS.pair (put 2 rfl) (put 3 rfl), ?_⟩
      refine SVs.cons <| SV.if <| TV.cmp <| EV.var (ix 3 rfl) <| EV.cStr <| eq_s <| tru_b ?_
      rw [show (Str.ofString "(") = S [40] from h40]
      by_cases hc : q.2 = S [40]
      · exact yes hc <| SVs.cons <| SV.aug (ix 1 rfl) <| EV.cInt <| iadd_i ⟨rfl, _, (put 1 rfl), SVs.nil <| SVs.nil ⟨o + 1, _, _, (if_pos hc).symm.trans hg, rfl⟩⟩
      · replace hg := (if_neg hc).symm.trans hg
        refine no hc <| SVs.cons <| SV.if <| TV.cmp <| EV.var (ix 3 rfl) <| EV.cStr <| eq_s <| tru_b ?_
        rw [show (Str.ofString ")") = S [41] from h41]
        by_cases hd : q.2 = S [41]
        · replace hg := (if_pos hd).symm.trans hg
          refine yes hd <| SVs.cons <| SV.aug (ix 1 rfl) <| EV.cInt <| isub_i ⟨rfl, _, (put 1 rfl), ?_⟩
          refine SVs.cons <| SV.if <| TV.cmp <| EV.var (ix 1 rfl) <| EV.cInt <| lt_i <| tru_b ?_
          by_cases hn : o - 1 < 0
          · exact yes hn <| SVs.cons <| SV.ret <| EV.cBool (congrArg D.bool ((if_pos hn).symm.trans hg))
          · exact no hn <| SVs.nil <| SVs.nil <| SVs.nil <| SVs.nil ⟨o - 1, _, _, (if_neg hn).symm.trans hg, rfl⟩
        · exact no hd <| SVs.nil <| SVs.nil <| SVs.nil ⟨o, _, _, (if_neg hd).symm.trans hg, rfl⟩
  · rintro _ ⟨o, p, c, hg, rfl⟩
    exact SVs.cons <| SV.ret <| EV.cmp <| EV.var (ix 1 rfl) <| EV.cInt <| eq_i (congrArg D.bool hg)
end
end Mine
end

noncomputable section
--# Mt1
namespace Mine
open PySem PySem.W PyProof.Rows PySem.Calls

/-- how deep the brackets stand -/
noncomputable def dep : List Nat → Int → Option Int
  | [], o => some o
  | c :: cs, o => if c = 40 then dep cs (o + 1) else if c = 41 then (if o - 1 < 0 then none else dep cs (o - 1)) else dep cs o
noncomputable def Plain (l : List Nat) : Prop := 34 ∉ l ∧ 92 ∉ l
theorem stripM_plain {l : List Nat} (h : 34 ∉ l) : stripM l = l := by unfold stripM; rw [if_neg h]
theorem S1_inj {a b : Nat} : (S [a] = S [b]) ↔ a = b := by rw [S_inj]; simp
theorem checkGo_plain : ∀ (l : List Nat) (i : Nat) (o : Int), 92 ∉ l → checkGo (escI false i l) o = decide (dep l o = some 0) := by
  intro l
  induction l with
  | nil => intro i o _; simp [escI, checkGo, dep]
  | cons c l ih =>
    intro i o h
    have hc : c ≠ 92 := fun e => h (e ▸ .head _)
    have hl : 92 ∉ l := fun e => h (.tail _ e)
    have e1 : escI false i (c :: l) = (i, S [c]) :: escI false (i + 1) l := by
      show (if c = 92 then _ else _) = _
      rw [if_neg hc]; rfl
    rw [e1, checkGo, dep]
    simp only [S1_inj]
    by_cases h1 : c = 40
    · rw [if_pos h1, if_pos h1]; exact ih _ _ hl
    · rw [if_neg h1, if_neg h1]
      by_cases h2 : c = 41
      · rw [if_pos h2, if_pos h2]
        by_cases h3 : o - 1 < 0
        · rw [if_pos h3, if_pos h3]; simp
        · rw [if_neg h3, if_neg h3]; exact ih _ _ hl
      · rw [if_neg h2, if_neg h2]; exact ih _ _ hl
theorem checkM_plain {l : List Nat} (h : Plain l) : checkM l = decide (dep l 0 = some 0) := by
  unfold checkM
  rw [stripM_plain h.1, checkGo_plain _ _ _ h.2]
theorem dep_app : ∀ (a b : List Nat) (o : Int), dep (a ++ b) o = (dep a o).bind (dep b) := by
  intro a
  induction a with
  | nil => intro b o; rfl
  | cons c a ih =>
    intro b o
    rw [List.cons_append, dep, dep]
    split
    · exact ih _ _
    · split
      · split
        · rfl
        · exact ih _ _
      · exact ih _ _
noncomputable def noBr (l : List Nat) : Prop := 40 ∉ l ∧ 41 ∉ l
theorem dep_noBr : ∀ (l : List Nat) (o : Int), noBr l → dep l o = some o := by
  intro l
  induction l with
  | nil => intro o _; rfl
  | cons c l ih =>
    intro o h
    have h1 : c ≠ 40 := fun e => h.1 (e ▸ .head _)
    have h2 : c ≠ 41 := fun e => h.2 (e ▸ .head _)
    rw [dep, if_neg h1, if_neg h2]
    exact ih o ⟨fun e => h.1 (.tail _ e), fun e => h.2 (.tail _ e)⟩
/-- what stands closed in itself -/
noncomputable def Clo (l : List Nat) : Prop := (∀ o : Int, 0 ≤ o → dep l o = some o) ∧ ∀ p, p <+: l → ∀ o : Int, 0 ≤ o → ∃ o', dep p o = some o' ∧ o ≤ o'
theorem prefix_noBr {p l : List Nat} (h : p <+: l) (n : noBr l) : noBr p := ⟨fun e => n.1 (h.subset e), fun e => n.2 (h.subset e)⟩
theorem Clo.noBr {l : List Nat} (h : Mine.noBr l) : Clo l := ⟨fun o _ => dep_noBr l o h, fun p hp o _ => ⟨o, dep_noBr p o (prefix_noBr hp h), Int.le_refl _⟩⟩
theorem prefix_app {p a b : List Nat} (h : p <+: a ++ b) : p <+: a ∨ ∃ q, p = a ++ q ∧ q <+: b := by
  by_cases hl : p.length ≤ a.length
  · exact .inl (List.prefix_of_prefix_length_le h (List.prefix_append a b) hl)
  · obtain ⟨t, ht⟩ := h
    have hle : a <+: p := List.prefix_of_prefix_length_le (List.prefix_append a b) ⟨t, ht⟩ (by omega)
    obtain ⟨q, rfl⟩ := hle
    refine .inr ⟨q, rfl, t, ?_⟩
    rw [List.append_assoc] at ht
    exact List.append_cancel_left ht
theorem Clo.app {a b : List Nat} (ha : Clo a) (hb : Clo b) : Clo (a ++ b) := by
  refine ⟨fun o ho => by rw [dep_app, ha.1 o ho]; exact hb.1 o ho, fun p hp o ho => ?_⟩
  rcases prefix_app hp with h | ⟨q, rfl, hq⟩
  · exact ha.2 p h o ho
  · rw [dep_app, ha.1 o ho]; exact hb.2 q hq o ho
theorem Clo.nil : Clo [] := ⟨fun o _ => rfl, fun p hp o _ => ⟨o, by rw [List.prefix_nil.mp hp]; rfl, Int.le_refl _⟩⟩
theorem Clo.flatten : ∀ {ls : List (List Nat)}, (∀ l ∈ ls, Clo l) → Clo ls.flatten
  | [], _ => Clo.nil
  | a :: ls, h => by rw [List.flatten_cons]; exact (h a (.head _)).app (Clo.flatten fun l hl => h l (.tail _ hl))
/-- a bracketed part: its own beginnings stay open -/
theorem brk_open {m : List Nat} (hm : Clo m) {p : List Nat} (hp : p <+: 40 :: (m ++ [41])) (h0 : p ≠ []) (hne : p ≠ 40 :: (m ++ [41])) : ∀ o : Int, 0 ≤ o → ∃ o', dep p o = some o' ∧ o < o' := by
  intro o ho
  cases p with
  | nil => exact absurd rfl h0
  | cons c p =>
    obtain ⟨t, ht⟩ := hp
    rw [List.cons_append] at ht
    injection ht with h1 h2
    subst h1
    rw [dep, if_pos rfl]
    have hp : p <+: m ++ [41] := ⟨t, h2⟩
    rcases prefix_app hp with h | ⟨q, rfl, hq⟩
    · obtain ⟨o', h1, h2⟩ := hm.2 p h (o + 1) (by omega)
      exact ⟨o', h1, by omega⟩
    · have : q = [] := by
        cases q with
        | nil => rfl
        | cons a q =>
          exfalso
          apply hne
          obtain ⟨t, ht⟩ := hq
          rw [List.cons_append] at ht
          injection ht with h1 h2
          have : q = [] := by
            cases q with
            | nil => rfl
            | cons _ _ => cases h2
          subst this h1; rfl
      subst this
      rw [List.append_nil, hm.1 _ (by omega)]
      exact ⟨o + 1, rfl, by omega⟩
theorem brk_clo {m : List Nat} (hm : Clo m) : Clo (40 :: (m ++ [41])) := by
  have key : ∀ o : Int, 0 ≤ o → dep (40 :: (m ++ [41])) o = some o := fun o ho => by
    rw [dep, if_pos rfl, dep_app, hm.1 _ (by omega)]
    show dep [41] (o + 1) = _
    rw [dep, if_neg (by decide), if_pos rfl, if_neg (by omega), dep]
    congr 1; omega
  refine ⟨key, fun p hp o ho => ?_⟩
  by_cases h0 : p = []
  · subst h0; exact ⟨o, rfl, Int.le_refl _⟩
  · by_cases hne : p = 40 :: (m ++ [41])
    · subst hne; exact ⟨o, key o ho, Int.le_refl _⟩
    · obtain ⟨o', h1, h2⟩ := brk_open hm hp h0 hne o ho
      exact ⟨o', h1, by omega⟩
noncomputable def pc0 : List (List Nat) := [[], [], [], []]
theorem pc0_at (i : Nat) : pc0.getD i [] = [] := by
  rcases getD_mem_or pc0 i [] with h | h
  · simpa [pc0] using h
  · exact h
theorem signL_noBr : ∀ l ∈ signL, noBr l ∧ Plain l ∧ l ≠ [] := by unfold noBr Plain; decide +kernel
theorem lastM_noBr (t : List (List Int)) (way : List Int) : noBr (lastM t way) ∧ Plain (lastM t way) := by
  unfold lastM
  split
  · simp [noBr, Plain]
  · rcases getD_mem_or signL (lastW t way - 9).toNat [] with h | h
    · exact ⟨(signL_noBr _ h).1, (signL_noBr _ h).2.1⟩
    · rw [h]; simp [noBr, Plain]
/-- the parts within a way's brackets -/
noncomputable def kidsT (t : List (List Int)) : Nat → List Int → List Nat
  | 0, _ => []
  | f + 1, way => ((furM way t).map (textM t pc0 f)).flatten
theorem textM_eq (t : List (List Int)) (f : Nat) (way : List Int) : textM t pc0 f way = 40 :: ((lastM t way ++ kidsT t f way) ++ [41]) := by
  cases f with
  | zero => rw [textM, pc0_at]; simp [kidsT]
  | succ f => rw [textM, pc0_at]; simp [kidsT]
theorem textM_clo (t : List (List Int)) : ∀ (f : Nat) (way : List Int), Clo (textM t pc0 f way) ∧ Clo (lastM t way ++ kidsT t f way) := by
  intro f
  induction f with
  | zero =>
    intro way
    have h : Clo (lastM t way ++ kidsT t 0 way) := by simpa [kidsT] using Clo.noBr (lastM_noBr t way).1
    exact ⟨by rw [textM_eq]; exact brk_clo h, h⟩
  | succ f ih =>
    intro way
    have h : Clo (lastM t way ++ kidsT t (f + 1) way) := (Clo.noBr (lastM_noBr t way).1).app (Clo.flatten fun l hl => by
      obtain ⟨v, _, rfl⟩ := List.mem_map.mp hl
      exact (ih v).1)
    exact ⟨by rw [textM_eq]; exact brk_clo h, h⟩
theorem plain_app {a b : List Nat} (ha : Plain a) (hb : Plain b) : Plain (a ++ b) := by
  unfold Plain at *; simp [ha, hb]
theorem plain_flatten : ∀ {ls : List (List Nat)}, (∀ l ∈ ls, Plain l) → Plain ls.flatten
  | [], _ => by simp [Plain]
  | a :: ls, h => by rw [List.flatten_cons]; exact plain_app (h a (.head _)) (plain_flatten fun l hl => h l (.tail _ hl))
theorem textM_plain (t : List (List Int)) : ∀ (f : Nat) (way : List Int), Plain (textM t pc0 f way) := by
  have one : ∀ c : Nat, c ≠ 34 → c ≠ 92 → Plain [c] := fun c h1 h2 => by simp [Plain]; omega
  have key : ∀ (f : Nat) (way : List Int), Plain (kidsT t f way) → Plain (textM t pc0 f way) := fun f way h => by
    rw [textM_eq]
    exact plain_app (one 40 (by decide) (by decide)) (plain_app (plain_app (lastM_noBr t way).2 h) (one 41 (by decide) (by decide)))
  intro f
  induction f with
  | zero => intro way; exact key 0 way (by simp [kidsT, Plain])
  | succ f ih =>
    intro way
    refine key (f + 1) way (plain_flatten fun l hl => ?_)
    obtain ⟨v, _, rfl⟩ := List.mem_map.mp hl
    exact ih v
/-- a bracketed part's beginning is no closed text -/
theorem check_part {t : List (List Int)} {f : Nat} {way : List Int} {p : List Nat} (hp : p <+: textM t pc0 f way) (h0 : p ≠ []) : checkM p = decide (p = textM t pc0 f way) := by
  have hpl : Plain p := ⟨fun e => (textM_plain t f way).1 (hp.subset e), fun e => (textM_plain t f way).2 (hp.subset e)⟩
  rw [checkM_plain hpl]
  by_cases h : p = textM t pc0 f way
  · rw [decide_eq_true h]
    exact decide_eq_true (by rw [h]; exact (textM_clo t f way).1.1 0 (Int.le_refl _))
  · rw [decide_eq_false h]
    refine decide_eq_false fun hd => ?_
    rw [textM_eq] at hp h
    obtain ⟨o', h1, h2⟩ := brk_open (textM_clo t f way).2 hp h0 h 0 (Int.le_refl _)
    rw [h1] at hd
    injection hd with hd
    omega
end Mine
end

noncomputable section
--# Mt2
namespace Mine
open PySem PySem.W PyProof.Rows PySem.Calls

theorem lookup_mem {α β : Type} [BEq α] [LawfulBEq α] {x : α} {k : β} : ∀ {l : List (α × β)}, l.lookup x = some k → (x, k) ∈ l
  | [], h => nomatch h
  | (y, v) :: l, h => by
    rw [List.lookup_cons] at h
    cases hb : x == y with
    | true =>
      rw [hb] at h
      have := eq_of_beq hb
      subst this
      injection h with h; subst h; exact .head _
    | false => rw [hb] at h; exact .tail _ (lookup_mem h)
theorem signTab_tail : (signTab.all fun e => e.1.cps.toList.tail.all fun c => c != 40 && c != 41 && c != 120) = true := by decide +kernel
theorem lookup_none {y : List Nat} {c : Nat} (hc : c = 40 ∨ c = 41 ∨ c = 120) (h : c ∈ y.tail) : signTab.lookup (S y) = none := by
  cases e : signTab.lookup (S y) with
  | none => rfl
  | some k =>
    have hm := lookup_mem e
    have := List.all_eq_true.mp (List.all_eq_true.mp signTab_tail _ hm) c h
    rcases hc with rfl | rfl | rfl <;> simp at this
theorem signTab_has : ((List.range 46).all fun i => signTab.lookup (S (signL.getD i [])) == some (9 + (i : Int))) = true := by decide +kernel
theorem signL_lens : ((List.range 46).all fun i => (signL.getD i []).length == 1 || (signL.getD i []).length == 2 || (signL.getD i []).length == 3) = true := by decide +kernel
theorem sign_at {l : List Nat} {p i : Nat} (hi : i < 46) {c : Nat} {rest : List Nat} (hc : c = 40 ∨ c = 41 ∨ c = 120) (hl : l.drop p = signL.getD i [] ++ c :: rest) : signAtM l p = (9 + (i : Int), ((signL.getD i []).length : Int)) := by
  have hh := List.all_eq_true.mp signTab_has i (List.mem_range.mpr hi)
  have hh : signTab.lookup (S (signL.getD i [])) = some (9 + (i : Int)) := by simpa using hh
  have hlen := List.all_eq_true.mp signL_lens i (List.mem_range.mpr hi)
  unfold signAtM subL
  rw [hl]
  generalize signL.getD i [] = s at hh hlen ⊢
  match s, hlen with
  | [a], _ =>
    have h3 : (([a] ++ c :: rest).take 3).tail = c :: rest.take 1 := rfl
    have h2 : (([a] ++ c :: rest).take 2).tail = [c] := rfl
    have h1 : ([a] ++ c :: rest).take 1 = [a] := rfl
    rw [lookup_none (c := c) hc (by rw [h3]; exact .head _), lookup_none (c := c) hc (by rw [h2]; exact .head _), h1, hh]
    rfl
  | [a, b], _ =>
    have h3 : (([a, b] ++ c :: rest).take 3).tail = [b, c] := rfl
    have h2 : ([a, b] ++ c :: rest).take 2 = [a, b] := rfl
    rw [lookup_none (c := c) hc (by rw [h3]; exact .tail _ (.head _)), h2, hh]
    rfl
  | [a, b, d], _ =>
    have h3 : ([a, b, d] ++ c :: rest).take 3 = [a, b, d] := rfl
    rw [h3, hh]
    rfl
  | [], h => simp at h
  | a :: b :: d :: e :: r, h => simp at h
theorem sign_none {l : List Nat} {p : Nat} {rest : List Nat} (hl : l.drop p = 120 :: 32 :: rest) : signAtM l p = (0, 0) := by
  have key : ∀ e ∈ signTab, e.1.cps.toList.head? ≠ some 120 := by
    have : (signTab.all fun e => e.1.cps.toList.head? != some 120) = true := by decide +kernel
    intro e he
    have := List.all_eq_true.mp this e he
    simpa using this
  have no : ∀ y : List Nat, y.head? = some 120 → signTab.lookup (S y) = none := fun y hy => by
    cases e : signTab.lookup (S y) with
    | none => rfl
    | some k => exact absurd hy (key _ (lookup_mem e))
  unfold signAtM subL
  rw [hl, no _ rfl, no _ rfl, no _ rfl]

/-! a tree's two figures -/
noncomputable def kidStep (x : Int) (p um : Int × Int) (num : Int) : Int × Int := (p.1 * (x * um.1 + um.2), p.2 * (x * um.1 + um.2) + num * um.1 * p.1)
noncomputable def bfM (t : List (List Int)) (x : Int) : Nat → List Int → Int × Int
  | 0, _ => (1, 0)
  | f + 1, way => (furM way t).foldl (fun p c => kidStep x p (bfM t x f c) (lastW t c)) (1, 0)
abbrev bits (i : Int) : Nat := Builtin.Int.intBits i
theorem bits_mul {a b : Int} {m n : Nat} (ha : bits a ≤ m) (hb : bits b ≤ n) : bits (a * b) ≤ m + n := intBits_mul_le ha hb
theorem bits_add {a b : Int} {m : Nat} (ha : bits a ≤ m) (hb : bits b ≤ m) : bits (a + b) ≤ m + 1 := by
  have := intBits_add_le ha hb
  simpa using this
theorem bits_mono {a : Int} {m n : Nat} (h : bits a ≤ m) (k : m ≤ n) : bits a ≤ n := Nat.le_trans h k
theorem mulOk {a b : Int} (ha : bits a ≤ 1000000) (hb : bits b ≤ 1000000) : IntMulOk a b := IntMulOk.of_le ha hb (by decide)
/-- a step's sizes -/
theorem kidStep_bits {x : Int} {p um : Int × Int} {num : Int} {X B j : Nat} (hx : bits x ≤ X) (hn : bits num ≤ 6) (h1 : bits um.1 ≤ B) (h2 : bits um.2 ≤ B) (p1 : bits p.1 ≤ j) (p2 : bits p.2 ≤ j) :
    bits (x * um.1 + um.2) ≤ X + B + 1 ∧ bits (num * um.1) ≤ 6 + B ∧ bits (kidStep x p um num).1 ≤ j + (X + B + 8) ∧ bits (kidStep x p um num).2 ≤ j + (X + B + 8) := by
  have hf : bits (x * um.1 + um.2) ≤ X + B + 1 := bits_add (bits_mul hx h1) (bits_mono h2 (by omega))
  have hnu : bits (num * um.1) ≤ 6 + B := bits_mul hn h1
  refine ⟨hf, hnu, bits_mono (bits_mul p1 hf) (by omega), ?_⟩
  refine bits_mono (bits_add (m := j + (X + B + 7)) (bits_mono (bits_mul p2 hf) (by omega)) (bits_mono (bits_mul hnu p1) (by omega))) (by omega)
noncomputable def Bd (X : Nat) : Nat → Nat
  | 0 => 1
  | f + 1 => 4 * (X + Bd X f + 8) + 1
theorem fold_bits {x : Int} {X B : Nat} (hx : bits x ≤ X) (g : List Int → Int × Int) (num : List Int → Int) (hg : ∀ c, bits (g c).1 ≤ B ∧ bits (g c).2 ≤ B) (hn : ∀ c, bits (num c) ≤ 6) :
    ∀ (l : List (List Int)) (p : Int × Int) (j : Nat), bits p.1 ≤ j → bits p.2 ≤ j → bits (l.foldl (fun p c => kidStep x p (g c) (num c)) p).1 ≤ j + l.length * (X + B + 8) ∧ bits (l.foldl (fun p c => kidStep x p (g c) (num c)) p).2 ≤ j + l.length * (X + B + 8) := by
  intro l
  induction l with
  | nil => intro p j h1 h2; simpa using ⟨h1, h2⟩
  | cons c l ih =>
    intro p j h1 h2
    obtain ⟨_, _, k1, k2⟩ := kidStep_bits (p := p) (um := g c) (num := num c) hx (hn c) (hg c).1 (hg c).2 h1 h2
    have := ih _ _ k1 k2
    rw [List.foldl_cons, List.length_cons, Nat.succ_mul]
    refine ⟨bits_mono this.1 (by omega), bits_mono this.2 (by omega)⟩
theorem num_bits {t : List (List Int)} (hw : Wt t) (c : List Int) : bits (lastW t c) ≤ 6 := by
  unfold lastW
  refine intBits_le_iff.mpr ?_
  rcases hw (c.getD (c.length - 2) 0) (c.getLastD 0) with h | h <;> omega
theorem bfM_bits {t : List (List Int)} {x : Int} {X : Nat} (hw : Wt t) (hx : bits x ≤ X) : ∀ (f : Nat) (way : List Int), bits (bfM t x f way).1 ≤ Bd X f ∧ bits (bfM t x f way).2 ≤ Bd X f := by
  intro f
  induction f with
  | zero => intro way; exact ⟨show bits 1 ≤ 1 from intBits_le_iff.mpr (by decide), show bits 0 ≤ 1 from intBits_le_iff.mpr (by decide)⟩
  | succ f ih =>
    intro way
    have h := fold_bits hx (bfM t x f) (lastW t) ih (num_bits hw) (furM way t) (1, 0) 1 (intBits_le_iff.mpr (by decide)) (intBits_le_iff.mpr (by decide))
    have h4 : (furM way t).length ≤ 4 := by unfold furM; rw [List.length_map]; exact furC_len ..
    have h5 := Nat.mul_le_mul_right (X + Bd X f + 8) h4
    refine ⟨bits_mono h.1 ?_, bits_mono h.2 ?_⟩ <;> (rw [Bd]; omega)
theorem Bd_le {X : Nat} (hX : X ≤ 2000) : ∀ f, f ≤ 3 → Bd X f ≤ 200000 := by
  intro f hf
  match f, hf with
  | 0, _ => simp [Bd]
  | 1, _ => simp [Bd]; omega
  | 2, _ => simp [Bd]; omega
  | 3, _ => simp [Bd]; omega
end Mine
end

noncomputable section
--# Wb10
namespace Mine
open PySem PySem.W PyProof.Rows PySem.Calls

theorem at_in {L P b R : List Nat} {j c : Nat} (hL : L = P ++ (b ++ R)) (h : b[j]? = some c) : L[P.length + j]? = some c := by
  rw [hL, List.getElem?_append_right (Nat.le_add_right ..), Nat.add_sub_cancel_left, List.getElem?_append_left (List.getElem?_eq_some_iff.mp h).1, h]
theorem cut_in (P b R : List Nat) (j : Nat) (h : j ≤ b.length) : ((P ++ (b ++ R)).drop P.length).take j = b.take j := by
  rw [List.drop_left, List.take_append_of_le_length h]
theorem kTxt.cut {Q : D → Prop} {L P b R : List Nat} {j : Nat} (hL : L = P ++ (b ++ R)) (hj : j + 1 ≤ b.length) (q : Q (.str (S (b.take (j + 1))))) :
    kTxt Q (S L) (some ((P.length : Nat) : Int)) (some (((P.length + j : Nat) : Int) + 1)) := by
  have e : P.length + j + 1 - P.length = j + 1 := (congrArg (· - P.length) (Nat.add_assoc ..)).trans (Nat.add_sub_cancel_left ..)
  have z := S_slice L (Int.natCast_nonneg P.length) (Int.natCast_nonneg (P.length + j + 1))
  rw [Int.toNat_natCast, Int.toNat_natCast, e, hL, cut_in P b R (j + 1) hj] at z
  rw [hL]
  exact as (Q := Q) (congrArg D.str z) q
/-- a block's last character -/
theorem blk_last {m : List Nat} {j ch : Nat} (hc : (40 :: (m ++ [41]))[j]? = some ch) (h : ch ≠ 41) : j + 1 < (40 :: (m ++ [41])).length := by
  refine Nat.lt_of_le_of_ne (List.getElem?_eq_some_iff.mp hc).1 fun e => h ?_
  obtain rfl : j = m.length + 1 := (Nat.succ.inj e).trans List.length_append
  exact (Option.some.inj ((List.getElem?_concat_length (l := m) (a := 41)).symm.trans hc)).symm
theorem take_all {b : List Nat} {k : Nat} (h : k ≤ b.length) : (b.take k = b) ↔ ¬ k < b.length :=
  ⟨fun e => Nat.not_lt.mpr (Nat.le_of_eq ((congrArg List.length e).symm.trans (List.length_take_of_le h))), fun q => List.take_of_length_le (Nat.not_lt.mp q)⟩
theorem blk_check {t : List (List Int)} {f : Nat} {way : List Int} {j : Nat} (h : j + 1 ≤ (textM t pc0 f way).length) : checkM ((textM t pc0 f way).take (j + 1)) = decide (¬ j + 1 < (textM t pc0 f way).length) :=
  (check_part (List.take_prefix _ _) fun e => absurd ((List.length_take_of_le h).symm.trans (congrArg List.length e)) (Nat.succ_ne_zero j)).trans (decide_eq_decide.mpr (take_all h))
theorem blk_strip {t : List (List Int)} {f : Nat} {way : List Int} {k : Nat} : stripM ((textM t pc0 f way).take k) = (textM t pc0 f way).take k := stripM_plain fun h => (textM_plain t f way).1 ((List.take_prefix _ _).subset h)
theorem kids_head (t : List (List Int)) (f : Nat) (kid : List Int) (R : List Nat) : ∃ c0 r0, (c0 = 40 ∨ c0 = 41 ∨ c0 = 120) ∧ kidsT t f kid ++ 41 :: R = c0 :: r0 := by
  cases f with
  | zero => exact ⟨41, R, .inr (.inl rfl), rfl⟩
  | succ f =>
    rw [kidsT]
    cases furM kid t with
    | nil => exact ⟨41, R, .inr (.inl rfl), rfl⟩
    | cons v vs =>
      rw [List.map_cons, List.flatten_cons, textM_eq]
      exact ⟨40, _, .inl rfl, rfl⟩
theorem blk_split {L P R : List Nat} {t : List (List Int)} {f : Nat} {kid : List Int} (hL : L = P ++ (textM t pc0 f kid ++ R)) : L = (P ++ 40 :: lastM t kid) ++ (kidsT t f kid ++ 41 :: R) := by
  rw [hL, textM_eq]
  exact (congrArg (fun l => P ++ 40 :: l) ((List.append_assoc _ [41] R).trans (List.append_assoc (lastM t kid) _ _))).trans (List.append_assoc P (40 :: lastM t kid) _).symm
theorem sign_kid {L P R : List Nat} {t : List (List Int)} {f i : Nat} {kid : List Int} (hi : i < 46) (him : lastM t kid = signL.getD i []) (hL : L = P ++ (textM t pc0 f kid ++ R)) : signAtM L (P.length + 1) = (9 + (i : Int), ((signL.getD i []).length : Int)) := by
  obtain ⟨c0, r0, hc0, hr0⟩ := kids_head t f kid R
  refine sign_at hi (rest := r0) hc0 ?_
  rw [blk_split hL, hr0, him, List.append_assoc, ← List.drop_drop, List.drop_left]
  rfl
section
variable {w : Wd} {n : Nat} {sc : Scope} {κ : Env2} {ρ : Rho}
theorem item_sc {value slice : Expr} {l : List Nat} {i : Nat} {c : Nat} {Q : D → Prop} (hf : i < 1000000) (hc : l[i]? = some c) (q : Q (.str (S [c])))
    (hs : ∀ o i, subscripted slice false o i = operate [o, i] (getItem o i) := by intro _ _; rfl) : Op2 w n (subscriptTail value slice) (.str (S l)) (.int i) Q :=
  item_s (c := c) (Int.natCast_nonneg i) (Int.lt_trans (Int.ofNat_lt.mpr hf) (by decide)) ((S_at ..).trans hc) q hs
theorem last_i {t : List (List Int)} (hw : Wt t) {c : List Int} (hg : Good t c) (h2 : 1 < c.length) : ∃ i : Nat, i < 46 ∧ lastW t c = 9 + (i : Int) ∧ lastM t c = signL.getD i [] := by
  have := hg.w h2
  exact ⟨(lastW t c - 9).toNat, by omega, by omega, if_neg (Nat.not_le_of_lt h2)⟩
noncomputable def byR (L : List Nat) (x : Int) (pl : Nat) (bf : Int × Int) (e nu si un mo fu : Option D) : Rho := [("text", .v (some (.str (S L)))), ("place", .v (some (.int (pl : Nat)))), ("x", .v (some (.int x))), ("bare", .v (some (.int bf.1))), ("first", .v (some (.int bf.2))), ("end", .v e), ("number", .v nu), ("size", .v si), ("under", .v un), ("more", .v mo), ("full", .v fu)]
noncomputable def valK (t : List (List Int)) (x : Int) (f : Nat) (done : List (List Int)) : Int × Int := done.foldl (fun p c => kidStep x p (bfM t x f c) (lastW t c)) (1, 0)
noncomputable def blkK (t : List (List Int)) (f : Nat) (ks : List (List Int)) : List Nat := (ks.map (textM t pc0 f)).flatten
inductive ByI (t : List (List Int)) (x : Int) (f : Nat) (way : List Int) (L C : List Nat) (m : Nat) (ρ : Rho) : Prop
  | mk (done rest : List (List Int)) (P : List Nat) (e nu si un mo fu : Option D) (hfm : furM way t = done ++ rest) (hm : m = rest.length) (hL : L = P ++ (blkK t f rest ++ 41 :: C)) (h : ρ = byR L x P.length (valK t x f done) e nu si un mo fu)
inductive ByE (x : Int) (L : List Nat) (bf : Int × Int) : Rho → Prop
  | mk (pl : Nat) (e nu si un mo fu : Option D) : ByE x L bf (byR L x pl bf e nu si un mo fu)
inductive EndW (L : List Nat) (x : Int) (p len : Nat) (bf : Int × Int) (nu si un mo fu : Option D) (m : Nat) (ρ : Rho) : Prop
  | mk (j : Nat) (hm : j + m + 1 = len) (h : ρ = byR L x p bf (some (.int ((p + j : Nat)))) nu si un mo fu)
theorem kid_ok {t : List (List Int)} {x : Int} {X f : Nat} (hw : Wt t) (hX : X ≤ 2000) (hx : bits x ≤ X) (hf : f ≤ 3) {done : List (List Int)} (hd : done.length ≤ 3) (kid : List Int) :
    IntMulOk x (bfM t x f kid).1 ∧ IntMulOk (valK t x f done).2 (x * (bfM t x f kid).1 + (bfM t x f kid).2) ∧ IntMulOk (lastW t kid) (bfM t x f kid).1 ∧ IntMulOk (lastW t kid * (bfM t x f kid).1) (valK t x f done).1 ∧ IntMulOk (valK t x f done).1 (x * (bfM t x f kid).1 + (bfM t x f kid).2) := by
  have hB := Bd_le hX f hf
  obtain ⟨bu1, bu2⟩ := bfM_bits hw hx f kid
  obtain ⟨bv1, bv2⟩ := fold_bits hx (bfM t x f) (lastW t) (bfM_bits hw hx f) (num_bits hw) done (1, 0) 1 (show bits 1 ≤ 1 from intBits_le_iff.mpr (by decide)) (show bits 0 ≤ 1 from intBits_le_iff.mpr (by decide))
  have hs : X + Bd X f + 8 ≤ 202008 := Nat.add_le_add (Nat.add_le_add hX hB) (Nat.le_refl 8)
  have hv : 1 + done.length * (X + Bd X f + 8) ≤ 1000000 := Nat.le_trans (Nat.add_le_add (Nat.le_refl 1) (Nat.mul_le_mul hd hs)) (by decide)
  obtain ⟨bf, bnu, _, _⟩ := kidStep_bits (p := (1, 0)) (um := bfM t x f kid) (j := 1) hx (num_bits hw kid) bu1 bu2 (show bits 1 ≤ 1 from intBits_le_iff.mpr (by decide)) (show bits 0 ≤ 1 from intBits_le_iff.mpr (by decide))
  have f1 := bits_mono bf (Nat.le_trans (Nat.add_le_add (Nat.add_le_add hX hB) (Nat.le_refl 1)) (by decide : 202001 ≤ 1000000))
  have u1 := bits_mono bu1 (Nat.le_trans hB (by decide : 200000 ≤ 1000000))
  have v1 := bits_mono bv1 hv
  exact ⟨mulOk (bits_mono hx (Nat.le_trans hX (by decide))) u1, mulOk (bits_mono bv2 hv) f1, mulOk (bits_mono (num_bits hw kid) (by decide)) u1, mulOk (bits_mono bnu (Nat.le_trans (Nat.add_le_add (Nat.le_refl 6) hB) (by decide))) v1, mulOk v1 f1⟩
theorem f_by_text {t : List (List Int)} {x : Int} {X : Nat} (hw : Wt t) (hX : X ≤ 2000) (hx : bits x ≤ X) {L : List Nat} (hlen : L.length ≤ 3000) : ∀ (f : Nat) (way : List Int) (A C : List Nat), L = A ++ (kidsT t f way ++ 41 :: C) → f ≤ 3 → Good t way → freeN way ≤ f → way.length + f ≤ 4 →
    CallOk w (n + f + 4) (.fn 229) [.str (S L), .int (A.length : Nat), .int x] (kEq (.tup [.int (bfM t x f way).1, .int (bfM t x f way).2])) := by
  have h40 : (("(" : Str)) = S [40] := by decide +kernel
  have h41 : ((")" : Str)) = S [41] := by decide +kernel
  have hz : (S L).length ≤ sizeLine := by rw [S_len]; exact Nat.le_trans hlen (by decide)
  have n41 : S [41] ≠ S [40] := fun e => absurd (S1_inj.mp e) (by decide)
  have big : ∀ {i : Nat} {c : Nat}, L[i]? = some c → i < 1000000 := fun h => Nat.lt_of_lt_of_le (List.getElem?_eq_some_iff.mp h).1 (Nat.le_trans hlen (by decide))
  intro f
  induction f with
  | zero =>
    intro way A C hL hf hg hfr hl
    have O : FnOk 229 _ _ ["text", "place", "x"] ["bare", "first", "end", "number", "size", "under", "more", "full"] [("_check_parenthesis", .fn 84), ("_law_by_text", .fn 229), ("_law_sign_at", .fn 210)] := ⟨fun P => ⟨_, _, _, rfl⟩, rfl, rfl, rfl, rfl, rfl, rfl, rfl, by intro P; kernel_rfl, all3 (fun a b c => rfl), by decide +kernel, by kernel_rfl, (fall ⟨by kernel_rfl, g_check_parenthesis⟩ <| fall ⟨by kernel_rfl, g_law_by_text⟩ <| fall ⟨by kernel_rfl, g_law_sign_at⟩ <| fall_nil)⟩
    refine CallOk.fn O rfl <| SVs.cons <| SV.asg <| EV.cInt ⟨_, (put 3 rfl), SVs.cons <| SV.asg <| EV.cInt ⟨_, (put 4 rfl), ?_⟩⟩
    refine SVs.cons <| SV.while (fun m => (· = byR L x A.length (1, 0) none none none none none none)) 0 rfl ?_
    rintro m _ rfl
    have hc : L[A.length]? = some 41 := at_in (b := [41]) (R := C) (j := 0) hL rfl
    refine TV.cmp <| EV.sub <| EV.var (.head _) <| EV.var (ix 1 rfl) <| item_sc (big hc) hc <| EV.cStr ?_
    rw [show (Str.ofString "(") = S [40] from h40]
    exact eq_s <| tru_b <| no n41 <| SVs.cons <| SV.ret <| EV.tup <| EVs.cons <| EV.var (ix 3 rfl) <| EVs.cons <| EV.var (ix 4 rfl) <| EVs.nil ⟨sz 2, rfl⟩
  | succ f ih =>
    intro way A C hL hf hg hfr hl
    have O : FnOk 229 _ _ ["text", "place", "x"] ["bare", "first", "end", "number", "size", "under", "more", "full"] [("_check_parenthesis", .fn 84), ("_law_by_text", .fn 229), ("_law_sign_at", .fn 210)] := ⟨fun P => ⟨_, _, _, rfl⟩, rfl, rfl, rfl, rfl, rfl, rfl, rfl, by intro P; kernel_rfl, all3 (fun a b c => rfl), by decide +kernel, by kernel_rfl, (fall ⟨by kernel_rfl, g_check_parenthesis⟩ <| fall ⟨by kernel_rfl, g_law_by_text⟩ <| fall ⟨by kernel_rfl, g_law_sign_at⟩ <| fall_nil)⟩
    refine CallOk.fn O rfl <| SVs.cons <| SV.asg <| EV.cInt ⟨_, (put 3 rfl), SVs.cons <| SV.asg <| EV.cInt ⟨_, (put 4 rfl), ?_⟩⟩
    have hf3 : f ≤ 3 := Nat.le_of_succ_le hf
    have hfl : (furM way t).length ≤ 4 := Nat.le_trans (Nat.le_of_eq (List.length_map _)) (furC_len ..)
    refine SVs.join (ByE x L (bfM t x (f + 1) way)) ?_ ?_
    case refine_2 =>
      rintro _ ⟨pl, e, nu, si, un, mo, fu⟩
      exact SVs.cons <| SV.ret <| EV.tup <| EVs.cons <| EV.var (ix 3 rfl) <| EVs.cons <| EV.var (ix 4 rfl) <| EVs.nil ⟨sz 2, rfl⟩
    refine SV.while (ByI t x f way L C) (furM way t).length ⟨[], furM way t, A, none, none, none, none, none, none, rfl, rfl, hL, rfl⟩ ?_
    rintro m _ ⟨done, rest, P, e, nu, si, un, mo, fu, hfm, rfl, hL, rfl⟩
    cases rest with
    | nil =>
      have hc : L[P.length]? = some 41 := at_in (b := [41]) (R := C) (j := 0) hL rfl
      refine TV.cmp <| EV.sub <| EV.var (.head _) <| EV.var (ix 1 rfl) <| item_sc (big hc) hc <| EV.cStr ?_
      rw [show (Str.ofString "(") = S [40] from h40]
      obtain rfl : done = furM way t := (List.append_nil done).symm.trans hfm.symm
      exact eq_s <| tru_b <| no n41 (ByE.mk _ _ _ _ _ _ _)
    | cons kid rest =>
      have hkm : kid ∈ furM way t := hfm ▸ List.mem_append_right _ (.head _)
      obtain ⟨wk, lk, c, hcf, hkc⟩ := furM_ok hg.ok kid hkm
      have gk := hg.fur hw (by omega) kid hkm
      have hfr2 : freeN kid ≤ f := Nat.le_of_lt_succ (Nat.lt_of_lt_of_le (hkc ▸ freeN_fur hcf) hfr)
      have hdl : done.length ≤ 3 := by
        rw [hfm, List.length_append] at hfl
        exact Nat.le_of_succ_le_succ (Nat.le_trans (Nat.add_le_add_left (Nat.le_add_left 1 rest.length) done.length) hfl)
      obtain ⟨i, hi, hiw, him⟩ := last_i hw gk (lk ▸ Nat.succ_lt_succ (List.length_pos_iff.mpr hg.ok.1))
      replace hL : L = P ++ (textM t pc0 f kid ++ (blkK t f rest ++ 41 :: C)) := hL.trans (congrArg (P ++ ·) (List.append_assoc ..))
      have hLn := hL.trans (List.append_assoc ..).symm
      generalize blkK t f rest ++ 41 :: C = R at hL
      obtain ⟨b0, hb0⟩ : ∃ b, textM t pc0 f kid = 40 :: (b ++ [41]) := ⟨_, textM_eq t f kid⟩
      have hc : L[P.length]? = some 40 := at_in (j := 0) hL (hb0 ▸ rfl)
      refine TV.cmp <| EV.sub <| EV.var (.head _) <| EV.var (ix 1 rfl) <| item_sc (big hc) hc <| EV.cStr ?_
      rw [show (Str.ofString "(") = S [40] from h40]
      refine eq_s <| tru_b <| yes rfl ?_
      refine SVs.cons <| SV.asg <| EV.bin <| EV.var (ix 1 rfl) <| EV.cInt <| add_i ⟨_, (put 5 rfl), ?_⟩
      have hbl : (textM t pc0 f kid).length = b0.length + 2 := (congrArg List.length hb0).trans (congrArg (· + 1) List.length_append)
      have hbL : (textM t pc0 f kid).length ≤ 3000 := Nat.le_trans (by rw [hL, List.length_append, List.length_append]; exact Nat.le_trans (Nat.le_add_right ..) (Nat.le_add_left ..)) hlen
      refine SVs.join (· = byR L x P.length (valK t x f done) (some (.int ((P.length + (b0.length + 1) : Nat)))) nu si un mo fu) ?_ ?_
      · refine SV.while (EndW L x P.length (textM t pc0 f kid).length (valK t x f done) nu si un mo fu) b0.length ⟨1, by rw [hbl, Nat.add_comm 1], rfl⟩ ?_
        rintro m _ ⟨j, hjm, rfl⟩
        have hj1 : j + 1 ≤ (textM t pc0 f kid).length := hjm ▸ Nat.succ_le_succ (Nat.le_add_right ..)
        have hch := List.getElem?_eq_getElem hj1
        have hcL := at_in hL hch
        generalize (textM t pc0 f kid)[j]'hj1 = ch at hch hcL
        refine TV.to (b := decide (j + 1 < (textM t pc0 f kid).length)) ?_ ?_
        · refine TV.or <| TV.cmp <| EV.sub <| EV.var (.head _) <| EV.var (ix 5 rfl) <| item_sc (big hcL) hcL <| EV.cStr ?_
          rw [show (Str.ofString ")") = S [41] from h41]
          refine ne_s <| tru_b ?_
          by_cases h1 : ch = 41
          · refine no (not_not_intro (congrArg (fun c => S [c]) h1)) ?_
            refine TV.or <| TV.cmp <| EV.call <| EV.con (.head _) ⟨k84, EVs.cons <| EV.sliS <| EV.var (.head _) ⟨_, rfl, hz, EP.som <| EV.var (ix 1 rfl) ⟨_, rfl, EP.som <| EV.bin <| EV.var (ix 5 rfl) <| EV.cInt <| add_i ⟨_, rfl, kTxt.cut hL hj1 <| EVs.nil <| CallOk.to (f_check (Nat.le_trans (List.length_take_le' ..) hbL) ?_) ?_⟩⟩⟩⟩
            · exact Nat.le_trans (Nat.le_of_eq (congrArg List.length blk_strip)) (Nat.le_trans (List.length_take_le' ..) (Nat.le_trans hbL (by decide)))
            refine EV.cBool <| isNot_b <| tru_b ?_
            rw [blk_check hj1]
            by_cases h2 : j + 1 < (textM t pc0 f kid).length
            · rw [decide_eq_true h2, decide_eq_false (not_not_intro h2)]
              exact yesB rfl rfl
            · rw [decide_eq_false h2, decide_eq_true h2]
              exact noB rfl (TV.orNil rfl)
          · refine yes (fun e => h1 (S1_inj.mp e)) (decide_eq_true ?_).symm
            rw [hb0] at hch ⊢
            exact blk_last hch h1
        · by_cases h2 : j + 1 < (textM t pc0 f kid).length
          · obtain ⟨m, rfl⟩ : ∃ k, m = k + 1 := Nat.exists_eq_add_one.mpr (Nat.pos_of_ne_zero fun e => Nat.lt_irrefl _ (Nat.lt_of_lt_of_eq h2 (hjm.symm.trans (congrArg (fun m => j + m + 1) e))))
            exact yes h2 <| SVs.cons <| SV.asg <| EV.bin <| EV.var (ix 5 rfl) <| EV.cInt <| add_i ⟨_, (put 5 rfl), SVs.nil (kLess.mk m (Nat.lt_succ_self m) ⟨j + 1, (congrArg (· + 1) (Nat.succ_add_eq_add_succ ..)).trans hjm, rfl⟩)⟩
          · refine no h2 ?_
            have ej : j = b0.length + 1 := Nat.succ.inj ((Nat.le_antisymm hj1 (Nat.not_lt.mp h2)).trans hbl)
            exact congrArg (fun j : Nat => byR L x P.length (valK t x f done) (some (.int ((P.length + j : Nat)))) nu si un mo fu) ej
      · rintro _ rfl
        have hsa := sign_kid hi him hL
        have hLk := blk_split hL
        rw [← hiw] at hsa
        refine SVs.cons <| SV.asg2 <| EV.call <| EV.con (ix 2 rfl) ⟨k210, EVs.cons <| EV.var (.head _) <| EVs.cons <| EV.bin <| EV.var (ix 1 rfl) <| EV.cInt <| add_i <| EVs.nil <| CallOk.to (f_sign_at (p := P.length + 1) (Nat.le_trans hlen (by decide))) ?_⟩
        rw [hsa]
        refine ⟨_, _, rfl, _, _, (put 6 rfl), (put 7 rfl), ?_⟩
        have hA : ((P.length : Nat) : Int) + 1 + ((signL.getD i []).length : Int) = ((P ++ 40 :: lastM t kid).length : Nat) := by
          rw [him, List.length_append]
          exact congrArg Int.ofNat (Nat.add_right_comm _ 1 _)
        refine SVs.cons <| SV.asg2 <| EV.call <| EV.con (ix 1 rfl) ⟨k229, EVs.cons <| EV.var (.head _) <| EVs.cons <| EV.bin <| EV.bin <| EV.var (ix 1 rfl) <| EV.cInt <| add_i <| EV.var (ix 7 rfl) <| add_i <| EVs.cons <| EV.var (ix 2 rfl) <| EVs.nil ?_⟩
        refine as (Q := fun a => CallOk w _ _ [D.str (S L), .int a, .int x] _) hA <| CallOk.to (ih kid (P ++ 40 :: lastM t kid) R hLk hf3 gk hfr2 (by omega)) ?_
        obtain ⟨m1, m2, m3, m4, m5⟩ := kid_ok hw hX hx hf3 hdl kid
        refine ⟨_, _, rfl, _, _, (put 8 rfl), (put 9 rfl), ?_⟩
        refine SVs.cons <| SV.asg <| EV.bin <| EV.bin <| EV.var (ix 2 rfl) <| EV.var (ix 8 rfl) <| mul_i m1 <| EV.var (ix 9 rfl) <| add_i ⟨_, (put 10 rfl), ?_⟩
        refine SVs.cons <| SV.asg <| EV.bin <| EV.bin <| EV.var (ix 4 rfl) <| EV.var (ix 10 rfl) <| mul_i m2 <| EV.bin <| EV.bin <| EV.var (ix 6 rfl) <| EV.var (ix 8 rfl) <| mul_i m3 <| EV.var (ix 3 rfl) <| mul_i m4 <| add_i ⟨_, (put 4 rfl), ?_⟩
        refine SVs.cons <| SV.asg <| EV.bin <| EV.var (ix 3 rfl) <| EV.var (ix 10 rfl) <| mul_i m5 ⟨_, (put 3 rfl), ?_⟩
        refine SVs.cons <| SV.asg <| EV.bin <| EV.var (ix 5 rfl) <| EV.cInt <| add_i ⟨_, (put 1 rfl), SVs.nil (kLess.mk rest.length (Nat.lt_succ_self _) ⟨done ++ [kid], rest, P ++ textM t pc0 f kid, some (.int ((P.length + (b0.length + 1) : Nat))), some (.int (lastW t kid)), some (.int ((signL.getD i []).length : Int)), some (.int (bfM t x f kid).1), some (.int (bfM t x f kid).2), some (.int (x * (bfM t x f kid).1 + (bfM t x f kid).2)), hfm.trans (List.append_cons ..), rfl, hLn, ?_⟩)⟩
        rw [show (P ++ textM t pc0 f kid).length = P.length + (b0.length + 1) + 1 by rw [List.length_append, hbl]; rfl, show valK t x f (done ++ [kid]) = kidStep x (valK t x f done) (bfM t x f kid) (lastW t kid) from List.foldl_append]
        rfl
end
end Mine
end

noncomputable section
--# Mt3
namespace Mine
open PySem PySem.W PyProof.Rows PySem.Calls

theorem band_mask (a k : Nat) : Builtin.bitAnd (a : Int) ((2 ^ k : Nat) - 1 : Int) = ((a % 2 ^ k : Nat) : Int) := by
  have hp : 0 < 2 ^ k := Nat.two_pow_pos k
  rw [bitAnd_pp (by omega) (by omega)]
  congr 1
  have e : (((2 ^ k : Nat) : Int) - 1).toNat = 2 ^ k - 1 := by omega
  rw [e, Int.toNat_natCast, Nat.and_two_pow_sub_one_eq_mod]
theorem nat_and_zero {x y k : Nat} (h : y < 2 ^ k) : (x * 2 ^ k) &&& y = 0 := by
  apply Nat.eq_of_testBit_eq
  intro i
  rw [Nat.testBit_and, Nat.zero_testBit]
  by_cases hi : i < k
  · have : (x * 2 ^ k).testBit i = false := by rw [Nat.testBit_mul_two_pow]; simp; omega
    rw [this]; rfl
  · have : y.testBit i = false := Nat.testBit_lt_two_pow (Nat.lt_of_lt_of_le h (Nat.pow_le_pow_right (by decide) (by omega)))
    rw [this]; simp
theorem bor_add {x y k : Nat} (h : y < 2 ^ k) : Builtin.bitOr ((x * 2 ^ k : Nat) : Int) (y : Int) = ((x * 2 ^ k + y : Nat) : Int) := by
  rw [bitOr_and, bitAnd_pp (by omega) (by omega)]
  rw [Int.toNat_natCast, Int.toNat_natCast, nat_and_zero h]
  omega
theorem nat_and_self {x k : Nat} : x &&& (x / 2 ^ k * 2 ^ k) = x / 2 ^ k * 2 ^ k := by
  apply Nat.eq_of_testBit_eq
  intro i
  rw [Nat.testBit_and]
  by_cases hi : i < k
  · have : (x / 2 ^ k * 2 ^ k).testBit i = false := by rw [Nat.testBit_mul_two_pow]; simp; omega
    rw [this]; simp
  · rw [Nat.testBit_mul_two_pow, Nat.testBit_div_two_pow]
    have : i - k + k = i := by omega
    simp [this]
theorem bxor_mod (x k : Nat) : Builtin.bitXor (x : Int) ((x / 2 ^ k * 2 ^ k : Nat) : Int) = ((x % 2 ^ k : Nat) : Int) := by
  rw [bitXor_and, bitAnd_pp (by omega) (by omega)]
  rw [Int.toNat_natCast, Int.toNat_natCast, nat_and_self]
  have := Nat.div_add_mod x (2 ^ k)
  rw [Nat.mul_comm] at this
  omega
theorem shr_nat (a k : Nat) : (a : Int).fdiv (2 ^ k) = ((a / 2 ^ k : Nat) : Int) := by
  rw [Int.fdiv_eq_ediv_of_nonneg _ (Int.pow_nonneg (by decide))]
  rw [Int.natCast_ediv]; congr 1
theorem shl_nat (a k : Nat) : (a : Int) * 2 ^ k = ((a * 2 ^ k : Nat) : Int) := by simp
theorem divmod_nat (a b : Nat) : (a : Int).fdiv b = ((a / b : Nat) : Int) ∧ (a : Int).fmod b = ((a % b : Nat) : Int) :=
  ⟨by rw [Int.fdiv_eq_ediv_of_nonneg _ (by omega)]; rfl, by rw [Int.fmod_eq_emod_of_nonneg _ (by omega)]; rfl⟩
theorem bits_nat {a m : Nat} (h : a < 2 ^ m) : bits (a : Int) ≤ m := intBits_le_iff.mpr (by simpa using h)
theorem bits_sub_n {a n : Nat} (h : a < 2 ^ (2 * n)) (hn : n ≤ 4000) : ((bits (a : Int) : Nat) : Int) - n ≤ 4000 := by
  have := bits_nat h; omega
theorem pow_mono {a b : Nat} (h : a ≤ b) : 2 ^ a ≤ 2 ^ b := Nat.pow_le_pow_right (by decide) h

/-- the two halves' quotients make the whole's -/
theorem div_halves {a b q1 r1 q2 r2 H : Nat} (hb : 0 < b) (hH : 0 < H) (e1 : q1 = (a / H) / b) (e2 : r1 = (a / H) % b) (e3 : q2 = (r1 * H + a % H) / b) (e4 : r2 = (r1 * H + a % H) % b) :
    a / b = q1 * H + q2 ∧ a % b = r2 ∧ q2 < H := by
  have h1 := Nat.div_add_mod a H
  have h2 := Nat.div_add_mod (a / H) b
  rw [← e1, ← e2] at h2
  have hr1 : r1 < b := by rw [e2]; exact Nat.mod_lt _ hb
  have h5 : a % H < H := Nat.mod_lt _ hH
  have key : a = b * (q1 * H) + (r1 * H + a % H) := by
    have : a = (b * q1 + r1) * H + a % H := by rw [h2, Nat.mul_comm]; exact h1.symm
    rw [Nat.add_mul, Nat.mul_assoc] at this
    omega
  have hlt : r1 * H + a % H < b * H := by
    have : (r1 + 1) * H ≤ b * H := Nat.mul_le_mul_right H hr1
    rw [Nat.succ_mul] at this
    omega
  refine ⟨?_, ?_, ?_⟩
  · rw [e3]
    generalize r1 * H + a % H = c at key
    rw [key, Nat.mul_add_div hb]
  · rw [e4]
    generalize r1 * H + a % H = c at key
    rw [key, Nat.mul_add_mod]
  · rw [e3]
    exact Nat.div_lt_of_lt_mul hlt
theorem div_pad {a b : Nat} (k : Nat) : (a * 2 ^ k) / (b * 2 ^ k) = a / b ∧ (a * 2 ^ k) % (b * 2 ^ k) = (a % b) * 2 ^ k :=
  ⟨Nat.mul_div_mul_right _ _ (Nat.two_pow_pos k), Nat.mul_mod_mul_right _ _ _⟩
/-- q and r with a = q b + r, 0 ≤ r < b, are a's quotient and rest -/
theorem qr_of {A b : Nat} {q r : Int} (h : (A : Int) = q * b + r) (h0 : 0 ≤ r) (h1 : r < b) : q = ((A / b : Nat) : Int) ∧ r = ((A % b : Nat) : Int) := by
  have hb : (0 : Int) < b := by omega
  have e1 : (A : Int) / b = q := by
    rw [h, Int.add_comm, Int.add_mul_ediv_right _ _ (by omega), Int.ediv_eq_zero_of_lt h0 h1]; omega
  have e2 : (A : Int) % b = r := by
    rw [h, Int.add_comm, Int.add_mul_emod_self_right, Int.emod_eq_of_lt h0 h1]
  exact ⟨by rw [← e1]; rfl, by rw [← e2]; rfl⟩
end Mine
end

noncomputable section
--# Wb11
namespace Mine
open PySem PySem.W PyProof.Rows PySem.Calls

section
variable {w : Wd} {n : Nat} {sc : Scope} {κ : Env2} {ρ : Rho}
theorem shl_n {a k : Nat} {Q : D → Prop} (hk : k ≤ 1000000) (ha : bits (a : Int) ≤ 1000000) (q : Q (.int ((a * 2 ^ k : Nat) : Int))) : Op2 w n (binaryOp .LShift) (.int a) (.int k) Q :=
  shl_i (by omega) (by have : (bits (a : Int) : Int) ≤ 1000000 := by omega
                       show ((bits (a : Int) : Nat) : Int) + k ≤ _
                       omega) (by rw [Int.toNat_natCast, shl_nat]; exact q)
theorem shr_n {a k : Nat} {Q : D → Prop} (q : Q (.int ((a / 2 ^ k : Nat) : Int))) : Op2 w n (binaryOp .RShift) (.int a) (.int k) Q :=
  shr_i (by omega) (by rw [Int.toNat_natCast, shr_nat]; exact q)
theorem f_div3 {k : Nat} (F2 : ∀ (a b m : Nat), a < 2 ^ m * b → b < 2 ^ m → 2 ^ m ≤ 2 * b → m ≤ 4000 * 2 ^ k → CallOk w n (.fn 28) [.int a, .int b, .int m] (kEq (.tup [.int ((a / b : Nat) : Int), .int ((a % b : Nat) : Int)])))
    (hk : k ≤ 5) {a12 a3 b b1 b2 m : Nat} (hb : b = b1 * 2 ^ m + b2) (h2 : b2 < 2 ^ m) (h3 : a3 < 2 ^ m) (h1 : b1 < 2 ^ m) (h1' : 2 ^ m ≤ 2 * b1) (hm : m ≤ 4000 * 2 ^ k) (hA : a12 * 2 ^ m + a3 < 2 ^ m * b) :
    CallOk w (n + 1) (.fn 35) [.int a12, .int a3, .int b, .int b1, .int b2, .int m] (kEq (.tup [.int (((a12 * 2 ^ m + a3) / b : Nat) : Int), .int (((a12 * 2 ^ m + a3) % b : Nat) : Int)])) := by
  have O : FnOk 35 _ _ ["a12", "a3", "b", "b1", "b2", "n"] ["q", "r"] [("_div2n1n", .fn 28)] := ⟨fun P => ⟨_, _, _, rfl⟩, rfl, rfl, rfl, rfl, rfl, rfl, rfl, by intro P; kernel_rfl, all6 (fun a b c d e f => rfl), by decide +kernel, by kernel_rfl, (fall ⟨by kernel_rfl, g_div2n1n⟩ <| fall_nil)⟩
  have hpm : 0 < 2 ^ m := Nat.two_pow_pos m
  have hm2 : m ≤ 128000 := by
    have : 4000 * 2 ^ k ≤ 4000 * 2 ^ 5 := Nat.mul_le_mul_left _ (pow_mono hk)
    omega
  have hb0 : 0 < b := by rw [hb]; have : 1 * 1 ≤ b1 * 2 ^ m := Nat.mul_le_mul (by omega) (by omega); omega
  have hbl : b < 2 ^ (2 * m) := by
    rw [hb, Nat.two_mul, Nat.pow_add]
    have : (b1 + 1) * 2 ^ m ≤ 2 ^ m * 2 ^ m := Nat.mul_le_mul_right _ h1
    rw [Nat.succ_mul] at this; omega
  have ha12 : a12 < b := by
    have h : a12 * 2 ^ m < 2 ^ m * b := by omega
    rw [Nat.mul_comm] at h
    exact Nat.lt_of_mul_lt_mul_left h
  have bb : ∀ {x : Nat}, x < 2 ^ (2 * m) → bits (x : Int) ≤ 1000000 := fun h => bits_mono (bits_nat h) (by omega)
  have p2 : 2 ^ m ≤ 2 ^ (2 * m) := pow_mono (by omega)
  refine CallOk.fn O rfl ?_
  let fr : Int → Int → Rho := fun q r => [("a12", .v (some (.int a12))), ("a3", .v (some (.int a3))), ("b", .v (some (.int b))), ("b1", .v (some (.int b1))), ("b2", .v (some (.int b2))), ("n", .v (some (.int m))), ("q", .v (some (.int q))), ("r", .v (some (.int r)))]
  refine SVs.join (fun ρ' => ∃ q r : Nat, q < 2 ^ (2 * m) ∧ r < 2 ^ (2 * m) ∧ ((r : Int) * 2 ^ m + a3) - q * b2 = ((a12 * 2 ^ m + a3 : Nat) : Int) - q * b ∧ ((a12 * 2 ^ m + a3 : Nat) : Int) - q * b < b ∧ ρ' = fr q r) ?_ ?_
  · refine SV.if <| TV.cmp <| EV.bin <| EV.var (.head _) <| EV.var (ix 5 rfl) <| shr_n <| EV.var (ix 3 rfl) <| eq_i <| tru_b ?_
    by_cases hq : a12 / 2 ^ m = b1
    · refine yes (congrArg Int.ofNat hq) ?_
      have hdm := Nat.div_add_mod a12 (2 ^ m)
      rw [hq] at hdm
      have hml := Nat.mod_lt a12 hpm
      have hp1 : bits (1 : Int) ≤ 1 := intBits_le_iff.mpr (by decide)
      refine SVs.cons <| SV.asg2s (hs2 := (by intro env h; cases env; subst h; rfl)) (h := EV.tup <| EVs.cons <| EV.bin <| EV.bin <| EV.cInt <| EV.var (ix 5 rfl) <| shl_n (a := 1) (by omega) (bits_mono (m := 1) (intBits_le_iff.mpr (by decide)) (by omega)) <| EV.cInt <| sub_i <| EVs.cons <| EV.bin <| EV.bin <| EV.var (.head _) <| EV.bin <| EV.var (ix 3 rfl) <| EV.var (ix 5 rfl) <| shl_n (by omega) (bits_mono (bb (by omega)) (by omega)) <| sub_i <| EV.var (ix 3 rfl) <| add_i <| EVs.nil ⟨sz 2, _, _, rfl, _, _, (put 7 rfl), (put 6 rfl), SVs.nil ?_⟩)
      have e1 : b1 * 2 ^ m ≤ a12 := by rw [Nat.mul_comm]; omega
      refine ⟨2 ^ m - 1, a12 - b1 * 2 ^ m + b1, by omega, ?_, ?_, ?_, ?_⟩
      · have : a12 - b1 * 2 ^ m < 2 ^ m := by rw [Nat.mul_comm]; omega
        have h4 : 2 ^ m * 2 ≤ 2 ^ (2 * m) ∨ m = 0 := by
          by_cases h0 : m = 0
          · exact .inr h0
          · left
            rw [← Nat.pow_succ]; exact pow_mono (by omega)
        rcases h4 with h4 | h4
        · omega
        · subst h4; simp at *; omega
      · have c1 : (((a12 - b1 * 2 ^ m + b1 : Nat) : Int)) = a12 - b1 * 2 ^ m + b1 := by
          have := e1
          rw [Int.natCast_add, Int.natCast_sub e1]; simp
        have c2 : (((2 ^ m - 1 : Nat) : Int)) = 2 ^ m - 1 := by
          rw [Int.natCast_sub (by omega)]; simp
        rw [c1, c2, hb]
        simp only [Int.natCast_add, Int.natCast_mul, Int.natCast_pow, Int.cast_ofNat_Int]
        generalize (2 : Int) ^ m = M
        generalize (a12 : Int) = x
        generalize (b1 : Int) = y
        generalize (b2 : Int) = z
        simp only [Int.sub_mul, Int.add_mul, Int.mul_add, Int.one_mul]
        rw [show M * (y * M) = y * M * M by rw [Int.mul_comm]]
        omega
      · have c2 : (((2 ^ m - 1 : Nat) : Int)) * b = ((2 ^ m * b : Nat) : Int) - b := by
          rw [Int.natCast_sub (by omega), Int.sub_mul]; simp
        rw [c2]
        omega
      · show _ = fr _ _
        have c1 : (((a12 - b1 * 2 ^ m + b1 : Nat) : Int)) = a12 - ((b1 * 2 ^ m : Nat) : Int) + b1 := by
          rw [Int.natCast_add, Int.natCast_sub e1]
        have c2 : (((2 ^ m - 1 : Nat) : Int)) = ((1 * 2 ^ m : Nat) : Int) - 1 := by
          rw [Nat.one_mul, Int.natCast_sub (by omega)]; rfl
        rw [c1, c2]; rfl
    · refine no (fun h => hq (Int.ofNat_inj.mp h)) ?_
      have hlt : a12 < 2 ^ m * b1 := by
        have h5 : a12 < (b1 + 1) * 2 ^ m := by rw [Nat.succ_mul]; omega
        have h6 : a12 / 2 ^ m < b1 + 1 := Nat.div_lt_of_lt_mul (by rw [Nat.mul_comm]; exact h5)
        have h7 : a12 / 2 ^ m < b1 := by omega
        rw [Nat.mul_comm]
        exact (Nat.div_lt_iff_lt_mul hpm).mp h7
      refine SVs.cons <| SV.asg2 <| EV.call <| EV.con (.head _) ⟨k28, EVs.cons <| EV.var (.head _) <| EVs.cons <| EV.var (ix 3 rfl) <| EVs.cons <| EV.var (ix 5 rfl) <| EVs.nil <| CallOk.to (F2 a12 b1 m hlt h1 h1' hm) ?_⟩
      have hb1 : 0 < b1 := by omega
      have hdm := Nat.div_add_mod a12 b1
      have hml := Nat.mod_lt a12 hb1
      have hql : a12 / b1 ≤ a12 := Nat.div_le_self ..
      refine ⟨_, _, rfl, _, _, (put 6 rfl), (put 7 rfl), SVs.nil ⟨a12 / b1, a12 % b1, by omega, by omega, ?_, ?_, rfl⟩⟩
      · rw [hb]
        generalize a12 / b1 = q at *
        generalize a12 % b1 = r at *
        rw [← hdm]
        simp only [Int.natCast_add, Int.natCast_mul, Int.natCast_pow, Int.cast_ofNat_Int]
        generalize (2 : Int) ^ m = M
        generalize (q : Int) = x
        generalize (b1 : Int) = y
        generalize (b2 : Int) = z
        generalize (r : Int) = u
        simp only [Int.add_mul, Int.mul_add]
        rw [show x * (y * M) = y * x * M by rw [← Int.mul_assoc, Int.mul_comm x y]]
        omega
      · have h8 : (a12 % b1) * 2 ^ m + a3 < b1 * 2 ^ m := by
          have : (a12 % b1 + 1) * 2 ^ m ≤ b1 * 2 ^ m := Nat.mul_le_mul_right _ hml
          rw [Nat.succ_mul] at this; omega
        have h9 : a12 * 2 ^ m = (a12 / b1) * (b1 * 2 ^ m) + (a12 % b1) * 2 ^ m := by
          rw [← Nat.mul_assoc, ← Nat.add_mul, Nat.mul_comm (a12 / b1) b1, hdm]
        have h10 : (a12 / b1) * (b1 * 2 ^ m) ≤ (a12 / b1) * b := Nat.mul_le_mul_left _ (by omega)
        have h11 : a12 * 2 ^ m + a3 < (a12 / b1) * b + b := by omega
        have : ((a12 * 2 ^ m + a3 : Nat) : Int) < (((a12 / b1) * b + b : Nat) : Int) := by omega
        rw [Int.natCast_add, Int.natCast_mul] at this
        omega
  · rintro _ ⟨q, r, hq, hr, e, hlt, rfl⟩
    have bor : Builtin.bitOr ((r * 2 ^ m : Nat) : Int) (a3 : Int) = ((r * 2 ^ m + a3 : Nat) : Int) := bor_add h3
    refine SVs.cons <| SV.asg <| EV.bin <| EV.bin <| EV.bin <| EV.var (ix 7 rfl) <| EV.var (ix 5 rfl) <| shl_n (by omega) (bits_mono (bb hr) (by omega)) <| EV.var (ix 1 rfl) <| or_i ?_
    rw [bor]
    refine EV.bin <| EV.var (ix 6 rfl) <| EV.var (ix 4 rfl) <| mul_i (mulOk (bits_mono (bb hq) (by omega)) (bits_mono (bb (by omega)) (by omega))) <| sub_i ⟨_, (put 7 rfl), ?_⟩
    have e2 : (((r * 2 ^ m + a3 : Nat) : Int)) - q * b2 = ((a12 * 2 ^ m + a3 : Nat) : Int) - q * b := by
      rw [← e, Int.natCast_add, Int.natCast_mul, Int.natCast_pow]; rfl
    rw [e2]
    generalize hAe : a12 * 2 ^ m + a3 = A at *
    refine SVs.join (fun ρ' => ρ' = fr ((A / b : Nat) : Int) ((A % b : Nat) : Int)) ?_ ?_
    · refine SV.while (fun mm ρ' => ∃ q r : Int, (A : Int) = q * b + r ∧ r < b ∧ mm = (-r).toNat ∧ ρ' = fr q r) (-((A : Int) - q * b)).toNat ⟨q, _, by omega, hlt, rfl, rfl⟩ ?_
      rintro mm _ ⟨q, r, hqr, hrb, rfl, rfl⟩
      refine TV.cmp <| EV.var (ix 7 rfl) <| EV.cInt <| lt_i <| tru_b ?_
      by_cases h0 : r < 0
      · refine yes (h0) ?_
        refine SVs.cons <| SV.aug (ix 6 rfl) <| EV.cInt <| isub_i ⟨rfl, _, (put 6 rfl), SVs.cons <| SV.aug (ix 7 rfl) <| EV.var (ix 2 rfl) <| iadd_i ⟨rfl, _, (put 7 rfl), SVs.nil ⟨(-(r + b)).toNat, by omega, q - 1, r + b, ?_, by omega, rfl, rfl⟩⟩⟩
        rw [Int.sub_mul]; omega
      · refine no (h0) ?_
        obtain ⟨h1, h2⟩ := qr_of hqr (by omega) hrb
        rw [h1, h2]; rfl
    · rintro _ rfl
      exact SVs.cons <| SV.ret <| EV.tup <| EVs.cons <| EV.var (ix 6 rfl) <| EVs.cons <| EV.var (ix 7 rfl) <| EVs.nil ⟨sz 2, rfl⟩
end
end Mine
end

noncomputable section
--# Wb12
namespace Mine
open PySem PySem.W PyProof.Rows PySem.Calls

section
variable {w : Wd} {n : Nat} {sc : Scope} {κ : Env2} {ρ : Rho}
theorem and_n {a k : Nat} {Q : D → Prop} (q : Q (.int ((a % 2 ^ k : Nat) : Int))) : Op2 w n (binaryOp .BitAnd) (.int a) (.int (((1 * 2 ^ k : Nat) : Int) - 1)) Q :=
  and_i (by rw [Nat.one_mul, band_mask]; exact q)
theorem ishl_n {a k : Nat} {Q : D → Prop} (hk : k ≤ 1000000) (ha : bits (a : Int) ≤ 1000000) (q : Q (.int ((a * 2 ^ k : Nat) : Int))) : Op2 w n (inplaceOp .LShift) (.int a) (.int k) Q :=
  ishl_i (by omega) (by have : (bits (a : Int) : Int) ≤ 1000000 := by omega
                        show ((bits (a : Int) : Nat) : Int) + k ≤ _
                        omega) (by rw [Int.toNat_natCast, shl_nat]; exact q)
theorem ishr_n {a k : Nat} {Q : D → Prop} (q : Q (.int ((a / 2 ^ k : Nat) : Int))) : Op2 w n (inplaceOp .RShift) (.int a) (.int k) Q :=
  ishr_i (by omega) (by rw [Int.toNat_natCast, shr_nat]; exact q)
theorem one_bits : bits ((1 : Nat) : Int) ≤ 1000000 := bits_mono (m := 1) (intBits_le_iff.mpr (by decide)) (by omega)
theorem f_div2 : ∀ (k : Nat), k ≤ 5 → ∀ (a b m : Nat), a < 2 ^ m * b → b < 2 ^ m → 2 ^ m ≤ 2 * b → m ≤ 4000 * 2 ^ k →
    CallOk w (n + 2 * k + 1) (.fn 28) [.int a, .int b, .int m] (kEq (.tup [.int ((a / b : Nat) : Int), .int ((a % b : Nat) : Int)])) := by
  intro k
  induction k with
  | zero =>
    intro hk a b m ha hb hb' hm
    have O : FnOk 28 _ _ ["a", "b", "n"] ["pad", "half_n", "mask", "b1", "b2", "q1", "r", "q2"] [("_DIV_LIMIT", .int 4000), ("_div3n2n", .fn 35), ("divmod", .bi "divmod")] := ⟨fun P => ⟨_, _, _, rfl⟩, rfl, rfl, rfl, rfl, rfl, rfl, rfl, by intro P; kernel_rfl, all3 (fun a b c => rfl), by decide +kernel, by kernel_rfl, (fall ⟨by kernel_rfl, g_DIV_LIMIT⟩ <| fall ⟨by kernel_rfl, g_div3n2n⟩ <| fall ⟨by kernel_rfl, g_divmod⟩ <| fall_nil)⟩
    have h2 : a < 2 ^ (2 * m) := by
      rw [Nat.two_mul, Nat.pow_add]
      exact Nat.lt_trans ha (Nat.mul_lt_mul_of_pos_left hb (Nat.two_pow_pos m))
    have hb0 : 0 < b := by have := Nat.two_pow_pos m; omega
    refine CallOk.fn O rfl <| SVs.cons <| SV.if <| TV.cmp <| EV.bin <| EV.meth <| EV.var (.head _) ⟨_, meth_bits, KeepOk.bi, EVs.nil <| bits_ok <| EV.var (ix 2 rfl) <| sub_i <| EV.con (.head _) <| le_i <| tru_b ?_⟩
    refine yes ((bits_sub_n h2 (by omega))) ?_
    refine SVs.cons <| SV.ret <| EV.call <| EV.con (ix 2 rfl) ⟨KeepOk.bi, EVs.cons <| EV.var (.head _) <| EVs.cons <| EV.var (ix 1 rfl) <| EVs.nil <| divmod_2 (by omega) ?_⟩
    rw [(divmod_nat a b).1, (divmod_nat a b).2]; rfl
  | succ k ih =>
    intro hk a b m ha hb hb' hm
    have F2 := ih (by omega)
    have O : FnOk 28 _ _ ["a", "b", "n"] ["pad", "half_n", "mask", "b1", "b2", "q1", "r", "q2"] [("_DIV_LIMIT", .int 4000), ("_div3n2n", .fn 35), ("divmod", .bi "divmod")] := ⟨fun P => ⟨_, _, _, rfl⟩, rfl, rfl, rfl, rfl, rfl, rfl, rfl, by intro P; kernel_rfl, all3 (fun a b c => rfl), by decide +kernel, by kernel_rfl, (fall ⟨by kernel_rfl, g_DIV_LIMIT⟩ <| fall ⟨by kernel_rfl, g_div3n2n⟩ <| fall ⟨by kernel_rfl, g_divmod⟩ <| fall_nil)⟩
    have hm2 : m ≤ 128000 := by
      have : 4000 * 2 ^ (k + 1) ≤ 4000 * 2 ^ 5 := Nat.mul_le_mul_left _ (pow_mono (by omega))
      omega
    have h2 : a < 2 ^ (2 * m) := by
      rw [Nat.two_mul, Nat.pow_add]
      exact Nat.lt_trans ha (Nat.mul_lt_mul_of_pos_left hb (Nat.two_pow_pos m))
    have hb0 : 0 < b := by have := Nat.two_pow_pos m; omega
    refine CallOk.fn O rfl <| SVs.cons <| SV.if <| TV.cmp <| EV.bin <| EV.meth <| EV.var (.head _) ⟨_, meth_bits, KeepOk.bi, EVs.nil <| bits_ok <| EV.var (ix 2 rfl) <| sub_i <| EV.con (.head _) <| le_i <| tru_b ?_⟩
    by_cases hs : ((bits (a : Int) : Nat) : Int) - m ≤ 4000
    · refine yes (hs) ?_
      refine SVs.cons <| SV.ret <| EV.call <| EV.con (ix 2 rfl) ⟨KeepOk.bi, EVs.cons <| EV.var (.head _) <| EVs.cons <| EV.var (ix 1 rfl) <| EVs.nil <| divmod_2 (by omega) ?_⟩
      rw [(divmod_nat a b).1, (divmod_nat a b).2]; rfl
    refine no (hs) ?_
    have hbig : 4000 < m := by
      have := bits_nat h2; omega
    refine SVs.nil <| SVs.cons <| SV.asg <| EV.bin <| EV.var (ix 2 rfl) <| EV.cInt <| and_i ?_
    rw [bitAnd_m1]
    rw [show (m : Int) % 2 = ((m % 2 : Nat) : Int) from rfl]
    refine ⟨_, (put 3 rfl), ?_⟩
    generalize hp : m % 2 = p
    have hp2 : p < 2 := by rw [← hp]; exact Nat.mod_lt _ (by decide)
    let fr : Nat → Nat → Nat → Rho := fun a b m => [("a", .v (some (.int a))), ("b", .v (some (.int b))), ("n", .v (some (.int m))), ("pad", .v (some (.int p))), ("half_n", .v none), ("mask", .v none), ("b1", .v none), ("b2", .v none), ("q1", .v none), ("r", .v none), ("q2", .v none)]
    refine SVs.join (fun ρ' => ρ' = fr (a * 2 ^ p) (b * 2 ^ p) (m + p)) ?_ ?_
    · refine SV.if <| TV.val <| EV.var (ix 3 rfl) <| tru_i ?_
      by_cases h0 : p = 0
      · subst h0
        first | refine noB rfl ?_ | refine no (by simp) ?_
        refine SVs.nil ?_
        show fr a b m = _
        simp
      · have : p = 1 := by omega
        subst this
        first | refine yesB rfl ?_ | refine yes (by simp) ?_
        have hba : bits (a : Int) ≤ 1000000 := bits_mono (bits_nat h2) (by omega)
        have hbb : bits (b : Int) ≤ 1000000 := bits_mono (bits_nat hb) (by omega)
        refine SVs.cons <| SV.aug (.head _) <| EV.cInt <| ishl_n (k := 1) (by omega) hba ⟨rfl, _, (put 0 rfl), ?_⟩
        refine SVs.cons <| SV.aug (ix 1 rfl) <| EV.cInt <| ishl_n (k := 1) (by omega) hbb ⟨rfl, _, (put 1 rfl), ?_⟩
        exact SVs.cons <| SV.aug (ix 2 rfl) <| EV.cInt <| iadd_i ⟨rfl, _, (put 2 rfl), SVs.nil rfl⟩
    rintro _ rfl
    -- the even case
    obtain ⟨h, hh⟩ : ∃ h, m + p = 2 * h := ⟨(m + p) / 2, by omega⟩
    have ha1 : a * 2 ^ p < 2 ^ (2 * h) * (b * 2 ^ p) := by
      rw [← hh, Nat.pow_add]
      have e : 2 ^ m * 2 ^ p * (b * 2 ^ p) = (2 ^ m * b) * 2 ^ p * 2 ^ p := by
        simp [Nat.mul_assoc, Nat.mul_comm, Nat.mul_left_comm]
      rw [e]
      have h1 : a * 2 ^ p < (2 ^ m * b) * 2 ^ p := Nat.mul_lt_mul_of_pos_right ha (Nat.two_pow_pos p)
      exact Nat.lt_of_lt_of_le h1 (Nat.le_mul_of_pos_right _ (Nat.two_pow_pos p))
    have hb1 : b * 2 ^ p < 2 ^ (2 * h) := by
      rw [← hh, Nat.pow_add]; exact Nat.mul_lt_mul_of_pos_right hb (Nat.two_pow_pos p)
    have hb1' : 2 ^ (2 * h) ≤ 2 * (b * 2 ^ p) := by
      rw [← hh, Nat.pow_add, ← Nat.mul_assoc]; exact Nat.mul_le_mul_right _ hb'
    have hh0 : 0 < h := by omega
    have hhk : h ≤ 4000 * 2 ^ k := by rw [Nat.pow_succ] at hm; omega
    have fin : ∀ q r : Nat, q = (a * 2 ^ p) / (b * 2 ^ p) → r = (a * 2 ^ p) % (b * 2 ^ p) → q = a / b ∧ r = (a % b) * 2 ^ p := fun q r e1 e2 => by
      have := div_pad (a := a) (b := b) p
      exact ⟨e1.trans this.1, e2.trans this.2⟩
    rw [hh]
    generalize a * 2 ^ p = a' at *
    generalize b * 2 ^ p = b' at *
    have hbp : 0 < b' := by have := Nat.two_pow_pos (2 * h); omega
    have hH : 0 < 2 ^ h := Nat.two_pow_pos h
    have hHH : 2 ^ (2 * h) = 2 ^ h * 2 ^ h := by rw [Nat.two_mul, Nat.pow_add]
    have hbdm := Nat.div_add_mod b' (2 ^ h)
    have hadm := Nat.div_add_mod a' (2 ^ h)
    have ham : a' % 2 ^ h < 2 ^ h := Nat.mod_lt _ hH
    have ham2 : a' / 2 ^ h % 2 ^ h < 2 ^ h := Nat.mod_lt _ hH
    have hadm2 := Nat.div_add_mod (a' / 2 ^ h) (2 ^ h)
    have hdd : a' / 2 ^ h / 2 ^ h = a' / 2 ^ (2 * h) := by rw [Nat.div_div_eq_div_mul, hHH]
    have b2lt : b' % 2 ^ h < 2 ^ h := Nat.mod_lt _ hH
    have b1lt : b' / 2 ^ h < 2 ^ h := by
      refine Nat.div_lt_of_lt_mul ?_
      rw [← hHH]; exact hb1
    have b1ge : 2 ^ h ≤ 2 * (b' / 2 ^ h) := by
      obtain ⟨g, hg⟩ : ∃ g, h = g + 1 := ⟨h - 1, by omega⟩
      have h3 : 2 ^ h * 2 ^ g ≤ b' := by
        have : 2 ^ h * 2 ^ h ≤ 2 * b' := by rw [← hHH]; exact hb1'
        have e2 : 2 ^ h = 2 * 2 ^ g := by rw [hg, Nat.pow_succ, Nat.mul_comm]
        have e3 : 2 ^ h * 2 ^ h = 2 * (2 ^ h * 2 ^ g) := by
          calc 2 ^ h * 2 ^ h = 2 ^ h * (2 * 2 ^ g) := by rw [← e2]
            _ = 2 * (2 ^ h * 2 ^ g) := by rw [Nat.mul_left_comm]
        omega
      have h4 : 2 ^ g ≤ b' / 2 ^ h := (Nat.le_div_iff_mul_le hH).mpr (by rw [Nat.mul_comm]; exact h3)
      have e2 : 2 ^ h = 2 * 2 ^ g := by rw [hg, Nat.pow_succ, Nat.mul_comm]
      omega
    have hbeq : b' = b' / 2 ^ h * 2 ^ h + b' % 2 ^ h := by rw [Nat.mul_comm]; exact hbdm.symm
    have hA1 : a' / 2 ^ (2 * h) * 2 ^ h + a' / 2 ^ h % 2 ^ h = a' / 2 ^ h := by
      rw [← hdd, Nat.mul_comm]; exact hadm2
    have hA1lt : a' / 2 ^ (2 * h) * 2 ^ h + a' / 2 ^ h % 2 ^ h < 2 ^ h * b' := by
      rw [hA1]
      refine Nat.div_lt_of_lt_mul ?_
      rw [← Nat.mul_assoc, ← hHH]; exact ha1
    have G1 := f_div3 (w := w) (k := k) F2 (by omega) hbeq b2lt ham2 b1lt b1ge hhk hA1lt
    have r1lt : (a' / 2 ^ h) % b' < b' := Nat.mod_lt _ hbp
    have hA2lt : (a' / 2 ^ h) % b' * 2 ^ h + a' % 2 ^ h < 2 ^ h * b' := by
      have : ((a' / 2 ^ h) % b' + 1) * 2 ^ h ≤ b' * 2 ^ h := Nat.mul_le_mul_right _ r1lt
      rw [Nat.succ_mul] at this
      rw [Nat.mul_comm (2 ^ h) b']
      omega
    have G2 := f_div3 (w := w) (k := k) F2 (by omega) hbeq b2lt ham b1lt b1ge hhk hA2lt
    rw [hA1] at G1
    obtain ⟨d1, d2, d3⟩ := div_halves (a := a') hbp hH rfl rfl rfl rfl
    obtain ⟨fq, fr'⟩ := fin _ _ rfl rfl
    refine SVs.cons <| SV.asg <| EV.bin <| EV.var (ix 2 rfl) <| EV.cInt <| shr_n (k := 1) ⟨_, (put 4 rfl), ?_⟩
    rw [show 2 * h / 2 ^ 1 = h by omega]
    refine SVs.cons <| SV.asg <| EV.bin <| EV.bin <| EV.cInt <| EV.var (ix 4 rfl) <| shl_n (a := 1) (by omega) one_bits <| EV.cInt <| sub_i ⟨_, (put 5 rfl), ?_⟩
    refine SVs.cons <| SV.asg2s (hs2 := (by intro env h; cases env; subst h; rfl)) (h := EV.tup <| EVs.cons <| EV.bin <| EV.var (ix 1 rfl) <| EV.var (ix 4 rfl) <| shr_n <| EVs.cons <| EV.bin <| EV.var (ix 1 rfl) <| EV.var (ix 5 rfl) <| and_n <| EVs.nil ⟨sz 2, _, _, rfl, _, _, (put 7 rfl), (put 6 rfl), ?_⟩)
    refine SVs.cons <| SV.asg2 <| EV.call <| EV.con (ix 1 rfl) ⟨k35, EVs.cons <| EV.bin <| EV.var (.head _) <| EV.var (ix 2 rfl) <| shr_n <| EVs.cons <| EV.bin <| EV.bin <| EV.var (.head _) <| EV.var (ix 4 rfl) <| shr_n <| EV.var (ix 5 rfl) <| and_n <| EVs.cons <| EV.var (ix 1 rfl) <| EVs.cons <| EV.var (ix 6 rfl) <| EVs.cons <| EV.var (ix 7 rfl) <| EVs.cons <| EV.var (ix 4 rfl) <| EVs.nil <| CallOk.to G1 ?_⟩
    refine ⟨_, _, rfl, _, _, (put 8 rfl), (put 9 rfl), ?_⟩
    refine SVs.cons <| SV.asg2 <| EV.call <| EV.con (ix 1 rfl) ⟨k35, EVs.cons <| EV.var (ix 9 rfl) <| EVs.cons <| EV.bin <| EV.var (.head _) <| EV.var (ix 5 rfl) <| and_n <| EVs.cons <| EV.var (ix 1 rfl) <| EVs.cons <| EV.var (ix 6 rfl) <| EVs.cons <| EV.var (ix 7 rfl) <| EVs.cons <| EV.var (ix 4 rfl) <| EVs.nil <| CallOk.to G2 ?_⟩
    refine ⟨_, _, rfl, _, _, (put 10 rfl), (put 9 rfl), ?_⟩
    rw [← d2, fr']
    have hq1 : a' / 2 ^ h / b' < 2 ^ h := by
      refine Nat.div_lt_of_lt_mul ?_
      rw [← hA1, Nat.mul_comm b']
      exact hA1lt
    let fr2 : Nat → Rho := fun r => [("a", .v (some (.int a'))), ("b", .v (some (.int b'))), ("n", .v (some (.int (2 * h : Nat)))), ("pad", .v (some (.int p))), ("half_n", .v (some (.int h))), ("mask", .v (some (.int (((1 * 2 ^ h : Nat) : Int) - 1)))), ("b1", .v (some (.int (b' / 2 ^ h : Nat)))), ("b2", .v (some (.int (b' % 2 ^ h : Nat)))), ("q1", .v (some (.int (a' / 2 ^ h / b' : Nat)))), ("r", .v (some (.int r))), ("q2", .v (some (.int (((a' / 2 ^ h) % b' * 2 ^ h + a' % 2 ^ h) / b' : Nat))))]
    refine SVs.join (fun ρ' => ρ' = fr2 (a % b)) ?_ ?_
    · refine SV.if <| TV.val <| EV.var (ix 3 rfl) <| tru_i ?_
      by_cases h0 : p = 0
      · subst h0
        first | refine noB rfl ?_ | refine no (by simp) ?_
        refine SVs.nil ?_
        rw [Nat.pow_zero, Nat.mul_one]; rfl
      · have : p = 1 := by omega
        subst this
        first | refine yesB rfl ?_ | refine yes (by simp) ?_
        refine SVs.cons <| SV.aug (ix 9 rfl) <| EV.cInt <| ishr_n (k := 1) ⟨rfl, _, (put 9 rfl), SVs.nil ?_⟩
        rw [Nat.mul_div_cancel _ (by decide)]; rfl
    rintro _ rfl
    refine SVs.cons <| SV.ret <| EV.tup <| EVs.cons <| EV.bin <| EV.bin <| EV.var (ix 8 rfl) <| EV.var (ix 4 rfl) <| shl_n (by omega) (bits_mono (bits_nat hq1) (by omega)) <| EV.var (ix 10 rfl) <| or_i ?_
    rw [bor_add d3, ← d1, fq]
    exact EVs.cons <| EV.var (ix 9 rfl) <| EVs.nil ⟨sz 2, rfl⟩
end
end Mine
end

noncomputable section
--# Lc5
namespace Mine
open PySem PySem.W PyProof.Rows PySem.Calls

section
variable {w : Wd} {env : Env} {F W : Nat → Prop} {ad : Str → Nat} {κ : Env2} {ρ : Rho} {s : Shared}

theorem main_at (i : Inv w s) {P : Nat} (hP : isTab P) : ∃ mg, s.heap.Ns mainGlobals mg ∧ s.heap.BuiltinsAt mg P ∧ mainGlobals ≠ P := by
  obtain ⟨mg, bm, ob, hg, h1, h2, h3, h4, h5, h6⟩ := w.main
  have tab : w.H.get? P = some (tabObj #[]) := by rcases hP with rfl | rfl; exact w.t1; exact w.t2
  have hgP : mainGlobals ≠ P := fun q => by
    obtain ⟨o, es, ep, e, hd, _⟩ := hg
    rw [q, tab] at e; cases e; cases hd
  have hbP : bm ≠ P := fun q => by
    rw [q, tab] at h3; cases h3; cases h4
  have hbG : bm ≠ mainGlobals := fun q => by
    obtain ⟨o, es, ep, e, hd, _⟩ := hg
    rw [← q, h3] at e; cases e; rw [h6] at hd; cases hd
  exact ⟨mg, i.ns hg, ⟨bm, ob, h1, h2, hbG, hbP, i.base _ _ h3 (Wd.notTab h3 (by rintro rfl; cases h4)), h4, h5, h6⟩, hgP⟩

abbrev cloFd (name q : Str) (params : Arguments) (body : List Stmt) (scope : Scope) (clos : List (Str × Nat)) (doc pm : Value) (c' : Nat) (ctv : Value) : FuncData := fnX name q params body scope clos .none .none doc pm none (.ref c') ctv

/-- a nested def's function made for the first time: its code's record lies in the table -/
theorem made_first {A : Around} {E : Value → Shared → Prop} {Q : Value → Shared → Prop} {name q : Str} {params : Arguments} {body : List Stmt} {scope : Scope} {clos : List (Str × Nat)} {pos : Pos} {fl : Nat} {c P : Nat} (i : Inv w s) (hP : isTab P)
    (hcK : ∀ Pm, codeHdIn (KK Pm) c P = true) (hcode : env.code = .ref c) (hgl : env.globals = 3) (hcl : closureFor scope env = pure clos) (hne : clos ≠ []) (hdoc : docOf body = none) (he : s.heap.get? P = some (tabObj #[]))
    (h : ∀ c' ctv pm h' tk, Heap.ExtBut P s.heap h' → s.heap.objs.size ≤ c' → c' < h'.objs.size → h'.CodeRec (.ref c') q → (∃ o, h'.get? c' = some o ∧ o.cls = .type "code") → h'.get? P = some (tabObj #[rawInt pos.line, rawInt pos.col, .ref c']) →
      Q (.ref h'.objs.size) { s with heap := h'.push { cls := .type "function", data := .func (cloFd name q params body scope clos .none pm c' ctv) }, toks := tk }) :
    wpAny (MM w) A (makeFunction name q params (.stmts body) scope env [] [] [] pos fl) Q E s := by
  obtain ⟨mg, hg, ⟨bm, ob, b1, b2, b3, b4, b5, b6, b7, b8⟩, hgP⟩ := main_at i hP
  have C : CodeHd s.heap c P := codeHd_of_K i.K (hcK _)
  have hmg : (3 : Nat) = mainGlobals := rfl
  rw [makeFunction_eq]
  simp only [List.zip_nil_right, List.filterMap_nil, List.isEmpty_nil, if_true, pure_bind]
  unfold makeTail
  rw [hcl, hgl, hmg]
  refine wpAny_bind (wpAny_pure ?_)
  have hemp : clos.isEmpty = false := by cases clos with | nil => exact absurd rfl hne | cons _ _ => rfl
  simp only [hemp, Bool.false_eq_true, if_false]
  refine wpAny_bind (wpAny_newTextTuple ?_)
  have pk : ∀ {o' : Obj}, ∀ b o, s.heap.get? b = some o → (s.heap.push o').get? b = some o := fun b o e => Heap.get?_push_of_some _ e
  refine wpAny_bind (wpAny_functionCodeX hcode ((C.keeps pk).code (pk _ _ he) trivial) ((C.keeps pk).tab (pk _ _ he)) rfl fun c' h' tk hx hge hlt _ hrec htb hnew => ?_)
  have hx' : Heap.ExtBut P s.heap h' := fun b o hb e => hx b o hb (pk b o e)
  have hg' := hg.extBut hx' hgP
  refine wpAny_bind (wpAny_builtinsFor hg' b1 b2 (hx' _ _ b4 b5) b6 b7 b8 ?_)
  refine wpAny_bind (wpAny_nsGet hg' ?_)
  simp only [hdoc]
  obtain ⟨P', _, _, ⟨⟨oc, _, g1, g2, _⟩, _⟩⟩ := hnew
  refine wpAny_bind (wpAny_pure (wpAny_newObj_type (h c' _ _ h' tk hx' (Nat.le_trans (by rw [Heap.size_push]; omega) hge) hlt hrec ⟨oc, g1, g2⟩ htb.2) (by size_fits)))

/-- a def within a def -/
theorem def_run {A : Around} {E : Value → Shared → Prop} {Q : Flow → Shared → Prop} {name q : Str} {params : Arguments} {body : List Stmt} {scope : Scope} {clos : List (Str × Nat)} {pos : Pos} {c P : Nat} {up : Ent → Rho} (R : Fo w env F W ad κ ρ s) (hP : isTab P)
    (hcK : ∀ Pm, codeHdIn (KK Pm) c P = true) (hcode : env.code = .ref c) (hq : qualnameIn env name name = q) (hput : ∀ e, Put ρ name e (up e))
    (tk : TabOk w.H s.heap P pos.line pos.col q) (mk : ∀ h' tkk, Heap.ExtBut P s.heap h' → TabOk w.H h' P pos.line pos.col q → Inv w { s with heap := h', toks := tkk })
    (hcl : closureFor scope env = pure clos) (hne : clos ≠ []) (hdoc : docOf body = none) (d0 : params.defaults = []) (k0 : params.kw_defaults = []) (a0 : annTrees params none env = [])
    (h : ∀ (a c' : Nat) (doc pm ctv : Value) (cobj : Obj) (vs : Array Value) (t : Tok) (s' : Shared), Own w a → s'.heap.get? a = some { cls := .type "function", data := .func (cloFd name q params body scope clos doc pm c' ctv) } → Own w c' → s'.heap.get? c' = some cobj → cobj.data = .fields vs → vs[1]? = some (.str q t) →
      Fo w env F W ad κ (up (.v (some (.fn a)))) s' → Stp F W s F W s' → Q .next s') :
    wpAny (MM w) A (exec (.FunctionDef name params body [] none [] scope none name pos) env) Q E s := by
  refine nestDef_K d0 k0 a0 ?_
  rw [hq]
  have go : ∀ (a c' : Nat) (doc pm ctv : Value) (cobj : Obj) (vs : Array Value) (t : Tok) (h' : Heap) (tkk : Tok), Heap.ExtBut P s.heap h' → TabOk w.H h' P pos.line pos.col q → (h'.get? P = s.heap.get? P ∨ s.heap.get? P = some (tabObj #[]) ∧ ∃ ps, h'.get? P = some (tabObj ps)) → Own w a → h'.get? a = some { cls := .type "function", data := .func (cloFd name q params body scope clos doc pm c' ctv) } → Own w c' → h'.get? c' = some cobj → cobj.data = .fields vs → vs[1]? = some (.str q t) → ¬ W a →
      wpAny (MM w) A (storeName env name (.ref a)) (fun _ s'' => Q .next s'') E { s with heap := h', toks := tkk } := by
    intro a c' doc pm ctv cobj vs t h' tkk hx htab hst oa ha oc hc hd hv nwa
    have inv := mk h' tkk hx htab
    have keep : ∀ b o, ¬ isTab b → s.heap.get? b = some o → h'.get? b = some o := fun b o nb e => hx b o (fun q => nb (q ▸ hP)) e
    have R1 : Fo w env F W ad κ ρ { s with heap := h', toks := tkk } := by
      exact R.move inv (fun b o hb e => keep b o (R.fz b hb).1.notTab e) (fun b o hb e => keep b o (R.wz b hb).1.notTab e) (fun _ _ _ _ _ _ _ oc e => keep _ _ oc.notTab e) (fun _ h => h) (fun b hb => ⟨(R.fz b hb).1, (R.fz b hb).2.elim fun o e => ⟨o, keep b o (R.fz b hb).1.notTab e⟩⟩) R.fw
    have y1 : Stp F W s F W { s with heap := h', toks := tkk } := by
      refine ⟨fun b o e => ?_, fun b o e _ nt => keep b o nt e, fun b hb => ?_, fun _ _ e => e, rfl, fun _ h => h, fun _ h => .inl h, fun _ h => .inl h, R1.wthere⟩
      · by_cases hb : b = P
        · subst hb
          rcases hst with hst | ⟨_, ps, hst⟩
          · exact ⟨o, hst.trans e⟩
          · exact ⟨_, hst⟩
        · exact ⟨o, hx b o hb e⟩
      · by_cases hbP : b = P
        · subst hbP
          exact hst
        · obtain ⟨ps, e⟩ := R.inv.tabs hb
          exact .inl ((hx b _ hbP e).trans e.symm)
    refine R1.storeG (hput (.v (some (.fn a)))) (v := .ref a) (fun h' S k => ⟨_, S, .fn a⟩) rfl rfl fun s2 R2 _ av keepF => ?_
    have k2 : ∀ b o, ¬ W b → Own w b → h'.get? b = some o → s2.heap.get? b = some o := fun b o nw ob e => av.keep b o e nw ob.notTab
    exact h a c' doc pm ctv cobj vs t s2 oa (k2 _ _ nwa oa ha) oc (keepF _ _ _ hc hd) hd hv R2 (y1.trans (av.stp R1.wthere))
  have nW : ∀ {b : Nat}, s.heap.get? b = none → ¬ W b := fun {b} e hw => by
    obtain ⟨o, e'⟩ := R.wthere b hw
    rw [e] at e'; cases e'
  rcases tk with he | ⟨c', own, h1, h2, oc, h3, h4⟩
  · refine made_first R.inv hP hcK hcode R.st.glob hcl hne hdoc he fun c' ctv pm h' tkk hx hge hlt hrec hcls htb => ?_
    have hc0 : s.heap.get? c' = none := Heap.get?_none_of_le hge
    have ha0 : s.heap.get? h'.objs.size = none := Heap.get?_none_of_le (Nat.le_trans hge (Nat.le_of_lt hlt))
    obtain ⟨c2, cobj, vs, t, e2, g1, g2, g3⟩ := id hrec
    cases e2
    have pk : ∀ {o' : Obj}, ∀ b o, h'.get? b = some o → (h'.push o').get? b = some o := fun b o e => Heap.get?_push_of_some _ e
    refine go h'.objs.size c' .none pm ctv cobj vs t _ tkk (fun b o hb e => pk b o (hx b o hb e)) (.inr ⟨c', R.inv.own hc0, pk _ _ htb, hrec.keeps pk, let ⟨o, e, q⟩ := hcls; ⟨o, pk _ _ e, q⟩⟩) (.inr ⟨he, _, pk _ _ htb⟩) (R.inv.own ha0) (Heap.get?_push_size _ rfl) (R.inv.own hc0) (pk _ _ g1) g2 g3 (nW ha0)
  · obtain ⟨mg, hg, hb, hgP⟩ := main_at R.inv hP
    obtain ⟨c2, cobj, vs, t, e2, g1, g2, g3⟩ := id h2
    cases e2
    refine makeFunction_hit (mg := mg) (cv := .ref c') hcl R.st.glob hg hcode (codeHd_of_K R.inv.K (hcK _)) h1 trivial ?_ hb fun ctv doc h' tkk hk hsz => ?_
    · simp [codeAmong, rawInt]
    have pk : ∀ {o' : Obj}, ∀ b o, s.heap.get? b = some o → (h'.push o').get? b = some o := fun b o e => Heap.get?_push_of_some _ (hk b o e)
    have ha0 : s.heap.get? h'.objs.size = none := Heap.get?_none_of_le hsz
    refine go h'.objs.size c' doc _ ctv cobj vs t _ tkk (fun b o _ e => pk b o e) (.inr ⟨c', own, pk _ _ h1, h2.keeps pk, oc, pk _ _ h3, h4⟩) (.inl ((pk _ _ h1).trans h1.symm)) (R.inv.own ha0) (Heap.get?_push_size _ rfl) own (pk _ _ g1) g2 g3 (nW ha0)
end
end Mine
end

noncomputable section
--# Lc6
namespace Mine
open PySem PySem.W PyProof.Rows PySem.Calls

section
variable {w : Wd} {n : Nat} {sc : Scope} {κ : Env2} {ρ : Rho} {K : Fl → Rho → Prop} {env : Env} {F W : Nat → Prop} {ad : Str → Nat} {s : Shared}
theorem CallOk.fnE {a : Nat} {fd : FuncData} {body : List Stmt} {ps ls : List Str} {κ : Env2} {args : List D} {Q : D → Prop} (O : FnOk a fd body ps ls κ) (hlen : ps.length = args.length)
    (h : ∀ (A : Around) (env : Env) (G W : Nat → Prop) (s s₁ : Shared), Opened w n A fd κ (initR ps args ++ noneR ls) G s env W s₁ → wpAny (MM w) (A.deeper env) (execs body env) (PS w env κ G W s₁ (kFn Q)) NoE s₁) : CallOk w (n + 1) (.fn a) args Q :=
  ⟨fun _ _ _ _ _ b _ i z rf ra => rf.fnE (motive := fun vf _ => wpAny (MM w) _ (call vf _) (Post w _ _ Q) NoE _) (wpAny_call (fn_enterC O hlen b i z ra fun _ _ _ o => wpAny_mono (h _ _ _ _ _ _ o) (fun _ _ p => o.post p) fun _ _ x => x))⟩

theorem pair_ne {α β : Type} {p q : α × β} : ∀ {l : List (α × β)}, l.Pairwise (fun x y => x.2 ≠ y.2) → p ∈ l → q ∈ l → p.1 ≠ q.1 → p.2 ≠ q.2
  | x :: l, h, hp, hq, hne => by
    rw [List.pairwise_cons] at h
    rcases List.mem_cons.mp hp with e1 | hp2
    · rcases List.mem_cons.mp hq with e2 | hq2
      · exact absurd (by rw [e1, e2]) hne
      · rw [e1]; exact h.1 _ hq2
    · rcases List.mem_cons.mp hq with e2 | hq2
      · rw [e2]; exact (h.1 _ hp2).symm
      · exact pair_ne h.2 hp2 hq2 hne
theorem cell_of (R : Fo w env F W ad κ ρ s) {x : Str} {d : D} (hx : (x, Ent.v (some d)) ∈ ρ) (hk : env.scope.names.lookup x = some .cell) : ∃ c v, env.cells.lookup x = some c ∧ W c ∧ s.heap.IsCell c (some v) ∧ Rep s.heap F v d := by
  obtain ⟨v, S, r⟩ := R.ents x _ hx
  have hkk : env.kindOf x = some .cell := hk
  cases S with
  | loc hk2 _ _ => rw [hkk] at hk2; cases hk2
  | cel _ _ hc wc hv => exact ⟨_, v, hc, wc, hv, r⟩
theorem cell_decl (R : Fo w env F W ad κ ρ s) {x : Str} {e : Ent} (hx : (x, e) ∈ ρ) (hk : env.scope.names.lookup x = some .cell) : ∃ c, env.cells.lookup x = some c ∧ W c := by
  have D := (R.ents x e hx).decl
  have hkk : env.kindOf x = some .cell := hk
  cases D with
  | loc hk2 => rw [hkk] at hk2; cases hk2
  | cel _ _ hc wc _ => exact ⟨_, hc, wc⟩
theorem KeepOk.clo {a : Nat} {objs : List (Nat × Obj)} {o : Obj} {fd : FuncData} (h : (a, o) ∈ objs) (hd : o.data = .func fd) : KeepOk w (.clo a objs) := ⟨fun s G vf i r => by
  cases r using Rep.cloE with
  | clo q =>
    have ho := (q _ h).2
    obtain ⟨oc, od, odata, osl⟩ := o
    simp only at hd
    subst hd
    obtain ⟨k, _, l⟩ := keeps_F (M := MM w) s.heap ⟨oc, od, fd, osl, ho⟩
    exact ⟨k, l⟩⟩
/-- a table's step keeps what must hold -/
theorem Inv.table {P : Nat} (i : Inv w s) (hP : isTab P) {h' : Heap} (hx : Heap.ExtBut P s.heap h') (t1 : P = 37 → TabOk w.H h' 37 35 4 "_int2digits.<locals>.inner") (t2 : P = 44 → TabOk w.H h' 44 50 4 "_digits2int.<locals>.inner") (t : Nat) : Inv w { s with heap := h', toks := t } where
  base := fun b o e nt => hx b o (fun q => nt (q ▸ hP)) (i.base b o e nt)
  t1 := by
    rcases hP with rfl | rfl
    · exact t1 rfl
    · refine i.t1.but (J := fun a => a = 44) (fun a o na e => hx a o na e) (by decide) (fun a o ha e => ?_)
      subst ha
      obtain ⟨ps, q⟩ := i.t2.there
      rw [e] at q; cases q; exact fun q => nomatch q
  t2 := by
    rcases hP with rfl | rfl
    · refine i.t2.but (J := fun a => a = 37) (fun a o na e => hx a o na e) (by decide) (fun a o ha e => ?_)
      subst ha
      obtain ⟨ps, q⟩ := i.t1.there
      rw [e] at q; cases q; exact fun q => nomatch q
    · exact t2 rfl
  bare := i.bare
/-- a frame in which the def «inner» stands: its three cells, their records and its own -/
structure Inn (w : Wd) (env : Env) (κ : Env2) (F W : Nat → Prop) (ad : Str → Nat) (ρ : Rho) (x1 : Str) (dx : D) (b : Int) (fd : FuncData) (a c' c1 c2 c3 : Nat) (fo co o1 o2 o3 : Obj) (v1 : Value) (s : Shared) : Prop where
  R : Fo w env F W ad κ ρ s
  oa : Own w a
  ha : s.heap.get? a = some fo
  hf : fo.data = .func fd
  oc : Own w c'
  hc : s.heap.get? c' = some co
  code : fd.code = .ref c'
  recd : ∃ (vs : Array Value) (t : Tok), co.data = .fields vs ∧ vs[1]? = some (.str fd.qualname t)
  clos : fd.closure = [(("n" : Str), c2), (("inner" : Str), c3), (x1, c1)]
  l1 : env.cells.lookup x1 = some c1
  l2 : env.cells.lookup ("n" : Str) = some c2
  l3 : env.cells.lookup ("inner" : Str) = some c3
  w1 : W c1
  w2 : W c2
  w3 : W c3
  g1 : s.heap.get? c1 = some o1
  g2 : s.heap.get? c2 = some o2
  g3 : s.heap.get? c3 = some o3
  h1 : o1.data = .cell (some v1)
  h2 : ∃ t, o2.data = .cell (some (.int b t))
  h3 : o3.data = .cell (some (.ref a))
  r1 : Rep s.heap F v1 dx
  pw : [(("n" : Str), c2), (("inner" : Str), c3), (x1, c1)].Pairwise fun x y => x.2 ≠ y.2
abbrev clos3 (x1 : Str) (c1 c2 c3 : Nat) : List (Str × Nat) := [(("n" : Str), c2), (("inner" : Str), c3), (x1, c1)]
theorem cell_same (R : Fo w env F W ad κ ρ s) {x : Str} {d : D} {c : Nat} (hx : (x, Ent.v (some d)) ∈ ρ) (hk : env.scope.names.lookup x = some .cell) (hl : env.cells.lookup x = some c) : ∃ o v, s.heap.get? c = some o ∧ o.data = .cell (some v) ∧ Rep s.heap F v d := by
  obtain ⟨c', v, h1, _, ⟨o, g, h⟩, r⟩ := cell_of R hx hk
  obtain rfl := Option.some.inj (h1.symm.trans hl)
  exact ⟨o, v, g, h, r⟩
theorem nest3 {A : Around} {E : Value → Shared → Prop} {Q : Flow → Shared → Prop} {q : Str} {params : Arguments} {body : List Stmt} {scope : Scope} {pos : Pos} {c P : Nat} {up : Ent → Rho} {x1 : Str} {dx : D} {b : Int} (R : Fo w env F W ad κ ρ s) (hP : isTab P)
    (hcK : ∀ Pm, codeHdIn (KK Pm) c P = true) (hcode : env.code = .ref c) (hq : qualnameIn env "inner" "inner" = q) (hput : ∀ e, Put ρ "inner" e (up e))
    (tk : TabOk w.H s.heap P pos.line pos.col q) (mk : ∀ h' tkk, Heap.ExtBut P s.heap h' → TabOk w.H h' P pos.line pos.col q → Inv w { s with heap := h', toks := tkk })
    (hx : ∀ e, (x1, Ent.v (some dx)) ∈ up e) (hn : ∀ e, (("n" : Str), Ent.v (some (.int b))) ∈ up e) {ex en : Ent} (mx : (x1, ex) ∈ ρ) (mn : (("n" : Str), en) ∈ ρ)
    (k1 : env.scope.names.lookup x1 = some .cell) (k2 : env.scope.names.lookup ("n" : Str) = some .cell) (k3 : env.scope.names.lookup ("inner" : Str) = some .cell)
    (hclo : ∀ cs, closeL cs scope.names [] = clos3 x1 ((cs.lookup x1).getD 0) ((cs.lookup ("n" : Str)).getD 0) ((cs.lookup ("inner" : Str)).getD 0))
    (hfr : (scope.names.all fun p => p.2 != .free || (p.1 == x1 || (p.1 == ("n" : Str) || p.1 == ("inner" : Str)))) = true) (hnd : x1 ≠ "n" ∧ x1 ≠ "inner" ∧ ("n" : Str) ≠ "inner")
    (hdoc : docOf body = none) (d0 : params.defaults = []) (k0 : params.kw_defaults = []) (a0 : annTrees params none env = [])
    (h : ∀ (a c' c1 c2 c3 : Nat) (fo co o1 o2 o3 : Obj) (v1 doc pm ctv : Value) (s' : Shared), Inn w env κ F W ad (up (.v (some (.fn a)))) x1 dx b (cloFd "inner" q params body scope (clos3 x1 c1 c2 c3) doc pm c' ctv) a c' c1 c2 c3 fo co o1 o2 o3 v1 s' → Stp F W s F W s' → Q .next s') :
    wpAny (MM w) A (exec (.FunctionDef "inner" params body [] none [] scope none "inner" pos) env) Q E s := by
  obtain ⟨e3, m3⟩ := (hput (.v none)).was
  obtain ⟨c1, l1, w1⟩ := cell_decl R mx k1
  obtain ⟨c2, l2, w2⟩ := cell_decl R mn k2
  obtain ⟨c3, l3, w3⟩ := cell_decl R m3 k3
  have hcl : closureFor scope env = pure (clos3 x1 c1 c2 c3) := by
    refine (closureFor_of fun x h => ?_).trans ?_
    · have q := List.all_eq_true.mp hfr _ h
      rcases Bool.or_eq_true_iff.mp q with q | q
      · exact absurd (show (NameKind.free != .free) = true from q) (by decide)
      rcases Bool.or_eq_true_iff.mp q with q | q
      · exact ⟨c1, (congrArg (fun y : Str => List.lookup y env.cells) (eq_of_beq q : x = _)).trans l1⟩
      rcases Bool.or_eq_true_iff.mp q with q | q
      · exact ⟨c2, (congrArg (fun y : Str => List.lookup y env.cells) (eq_of_beq q : x = _)).trans l2⟩
      · exact ⟨c3, (congrArg (fun y : Str => List.lookup y env.cells) (eq_of_beq q : x = _)).trans l3⟩
    · rw [hclo, l1, l2, l3]; rfl
  refine def_run R hP hcK hcode hq hput tk mk hcl (fun q => nomatch q) hdoc d0 k0 a0 fun a c' doc pm ctv cobj vs t s' oa ha oc hc hcd hcv R' y => ?_
  obtain ⟨o1, v1, g1, h1, r1⟩ := cell_same R' (hx _) k1 l1
  obtain ⟨o2, v2, g2, h2, r2⟩ := cell_same R' (hn _) k2 l2
  obtain ⟨o3, v3, g3, h3, r3⟩ := cell_same R' (hput _).mem k3 l3
  obtain ⟨t2, rfl⟩ := r2.inv
  obtain rfl := r3.inv
  exact h a c' c1 c2 c3 _ _ o1 o2 o3 v1 doc pm ctv s' ⟨R', oa, ha, rfl, oc, hc, rfl, ⟨vs, t, hcd, hcv⟩, rfl, l1, l2, l3, w1, w2, w3, g1, g2, g3, h1, ⟨t2, h2⟩, h3, r1, .cons (fun p hp => by
    rcases List.mem_cons.mp hp with rfl | hp
    · exact pair_ne R.cells (mem_of_lookup l2) (mem_of_lookup l3) hnd.2.2
    · obtain rfl := List.mem_singleton.mp hp
      exact pair_ne R.cells (mem_of_lookup l2) (mem_of_lookup l1) (Ne.symm hnd.1)) (.cons (fun p hp => by
    obtain rfl := List.mem_singleton.mp hp
    exact pair_ne R.cells (mem_of_lookup l3) (mem_of_lookup l1) (Ne.symm hnd.2.1)) (.cons (fun p hp => absurd hp List.not_mem_nil) .nil))⟩ y

section
variable {x1 : Str} {dx : D} {b : Int} {fd : FuncData} {a c' c1 c2 c3 : Nat} {fo co o1 o2 o3 : Obj} {v1 : Value} {G : Nat → Prop} {s' : Shared} {rest : List (Nat × Obj)}
abbrev objs3 (a c' c1 c2 c3 : Nat) (fo co o1 o2 o3 : Obj) (rest : List (Nat × Obj)) : List (Nat × Obj) := (a, fo) :: (c', co) :: (c1, o1) :: (c2, o2) :: (c3, o3) :: rest
abbrev HasAll (G : Nat → Prop) (s : Shared) (objs : List (Nat × Obj)) : Prop := ∀ p ∈ objs, G p.1 ∧ s.heap.get? p.1 = some p.2
theorem HasAll.cons {p : Nat × Obj} {l : List (Nat × Obj)} (h : G p.1 ∧ s.heap.get? p.1 = some p.2) (t : HasAll G s l) : HasAll G s (p :: l) := fun x m => (List.mem_cons.mp m).elim (fun e => e ▸ h) (t x)
theorem HasAll.nil : HasAll G s [] := fun _ m => absurd m List.not_mem_nil
theorem Inn.hasAll (I : Inn w env κ F W ad ρ x1 dx b fd a c' c1 c2 c3 fo co o1 o2 o3 v1 s) {G : Nat → Prop} (gW : ∀ c, W c → G c) (ga : G a) (gc : G c') (t : HasAll G s rest) : HasAll G s (objs3 a c' c1 c2 c3 fo co o1 o2 o3 rest) :=
  .cons ⟨ga, I.ha⟩ <| .cons ⟨gc, I.hc⟩ <| .cons ⟨gW _ I.w1, I.g1⟩ <| .cons ⟨gW _ I.w2, I.g2⟩ <| .cons ⟨gW _ I.w3, I.g3⟩ t
theorem Inn.keep (I : Inn w env κ F W ad ρ x1 dx b fd a c' c1 c2 c3 fo co o1 o2 o3 v1 s) : KeepOk w (.clo a (objs3 a c' c1 c2 c3 fo co o1 o2 o3 rest)) := .clo (.head _) I.hf
theorem Inn.recAt (I : Inn w env κ F W ad ρ x1 dx b fd a c' c1 c2 c3 fo co o1 o2 o3 v1 s) (q : HasAll G s' (objs3 a c' c1 c2 c3 fo co o1 o2 o3 rest)) : s'.heap.CodeRec fd.code fd.qualname :=
  I.recd.elim fun vs h => h.elim fun t h => ⟨c', co, vs, t, I.code, (q _ (ix 1 rfl)).2, h.1, h.2⟩
theorem Inn.cons (I : Inn w env κ F W ad ρ x1 dx b fd a c' c1 c2 c3 fo co o1 o2 o3 v1 s) (z : Gz w G s') (q : HasAll G s' (objs3 a c' c1 c2 c3 fo co o1 o2 o3 rest)) (kn : fd.scope.names.lookup ("n" : Str) = some .free) (ki : fd.scope.names.lookup ("inner" : Str) = some .free) :
    ∀ x d, (x, d) ∈ [(("n" : Str), D.int b), (("inner" : Str), .clo a (objs3 a c' c1 c2 c3 fo co o1 o2 o3 rest))] → ConOf w G s' fd.scope fd.closure x d := by
  have q2 := q _ (ix 3 rfl)
  have q3 := q _ (ix 4 rfl)
  obtain ⟨t, h2⟩ := I.h2
  refine fall (.inr ⟨kn, by decide +kernel, c2, _, by rw [I.clos]; rfl, (z _ q2.1).1, ⟨o2, q2.2, h2⟩, .int ..⟩) (fall (.inr ⟨ki, by decide +kernel, c3, _, by rw [I.clos]; rfl, (z _ q3.1).1, ⟨o3, q3.2, I.h3⟩, .clo q⟩) fall_nil)
/-- inner(..), that changes nothing -/
theorem Inn.call (I : Inn w env κ F W ad ρ x1 dx b fd a c' c1 c2 c3 fo co o1 o2 o3 v1 s) {body : List Stmt} {ps ls : List Str} {args : List D} {Q : D → Prop} (O : CloOk fd body ps ls) (hlen : ps.length = args.length) (kn : fd.scope.names.lookup ("n" : Str) = some .free) (ki : fd.scope.names.lookup ("inner" : Str) = some .free)
    (kx : fd.scope.names.lookup x1 = some .free) (hcd : (x1 == ("__classdict__" : Str)) = false) (lx : ∀ c1 c2 c3 : Nat, (clos3 x1 c1 c2 c3).lookup x1 = some c1) (rx : ∀ {G : Nat → Prop} {s' : Shared}, HasAll G s' (objs3 a c' c1 c2 c3 fo co o1 o2 o3 rest) → Rep s'.heap G v1 dx)
    (h : SVs w n fd.scope [(x1, dx), (("n" : Str), D.int b), (("inner" : Str), .clo a (objs3 a c' c1 c2 c3 fo co o1 o2 o3 rest))] (initR ps args ++ noneR ls) body (kFn Q)) : CallOk w (n + 1) (.clo a (objs3 a c' c1 c2 c3 fo co o1 o2 o3 rest)) args Q := by
  constructor
  intro A G s' vf vs bd f i z rf ra
  cases rf using Rep.cloE with | clo q =>
  have q1 := q _ (ix 2 rfl)
  exact clo_call O hlen (q _ (.head _)).2 I.hf (I.recAt q) (I.clos ▸ I.pw) (fall (.inr ⟨kx, hcd, c1, v1, by rw [I.clos]; exact lx .., (z _ q1.1).1, ⟨o1, q1.2, I.h1⟩, rx q⟩) (I.cons z q kn ki)) bd i z ra h
end
end
end Mine
end

noncomputable section
--# Wb13
namespace Mine
open PySem PySem.W PyProof.Rows PySem.Calls

/-- digits to their number -/
noncomputable def dval (n : Nat) : List Nat → Nat
  | [] => 0
  | d :: ds => d + 2 ^ n * dval n ds
noncomputable def dnats (ns : List Nat) : List Int := ns.map fun (k : Nat) => (k : Int)
theorem dval_app (n : Nat) : ∀ a b : List Nat, dval n (a ++ b) = dval n a + 2 ^ (n * a.length) * dval n b
  | [], b => by simp [dval]
  | x :: a, b => by
    rw [List.cons_append, dval, dval, dval_app n a b, List.length_cons, Nat.mul_succ, Nat.pow_add, Nat.mul_add, ← Nat.mul_assoc, Nat.mul_comm (2 ^ (n * a.length)) (2 ^ n)]
    omega
theorem dval_lt (n : Nat) : ∀ a : List Nat, (∀ x ∈ a, x < 2 ^ n) → dval n a < 2 ^ (n * a.length)
  | [], _ => by simp [dval]
  | x :: a, h => by
    have h1 := h x (.head _)
    have h2 := dval_lt n a fun y hy => h y (.tail _ hy)
    rw [dval, List.length_cons, Nat.mul_succ, Nat.pow_add, Nat.mul_comm (2 ^ (n * a.length))]
    have : 2 ^ n * (dval n a + 1) ≤ 2 ^ n * 2 ^ (n * a.length) := Nat.mul_le_mul_left _ h2
    rw [Nat.mul_succ] at this
    omega
noncomputable def seg (ns : List Nat) (L R : Nat) : List Nat := (ns.drop L).take (R - L)
theorem seg_split {ns : List Nat} {L m R : Nat} (h1 : L ≤ m) (h2 : m ≤ R) (h3 : R ≤ ns.length) : seg ns L R = seg ns L m ++ seg ns m R := by
  unfold seg
  have e : R - L = (m - L) + (R - m) := by omega
  rw [e, List.take_add, List.drop_drop]
  congr 3
  omega
theorem seg_one {ns : List Nat} {L : Nat} (h : L < ns.length) : seg ns L (L + 1) = [ns.getD L 0] := by
  unfold seg
  rw [show L + 1 - L = 1 by omega, List.drop_eq_getElem_cons h, List.getD_eq_getElem?_getD, List.getElem?_eq_getElem h]
  rfl
theorem seg_len {ns : List Nat} {L R : Nat} (h : R ≤ ns.length) : (seg ns L R).length = R - L := by
  unfold seg; rw [List.length_take, List.length_drop]; omega

/-- the middle between two places -/
theorem mid_in {L R m : Nat} (h : L < R) (h1 : L + 1 ≠ R) (hm : R - L ≤ m + 1) : L < (L + R) / 2 ∧ (L + R) / 2 < R ∧ R - (L + R) / 2 ≤ m ∧ (L + R) / 2 - L ≤ m := by
  generalize hd : (L + R) / 2 = d
  have h2 : 2 * d ≤ L + R ∧ L + R < 2 * d + 2 := by omega
  clear hd
  exact ⟨by omega, by omega, by omega, by omega⟩
theorem cast_part {L d b : Nat} (h : L ≤ d) : (((d : Int) - L) * b) = (((d - L) * b : Nat) : Int) := by
  rw [Int.natCast_mul, Int.natCast_sub h]
theorem part_le {a b k n : Nat} (h : k ≤ n) (hn : n ≤ 100) (hb : b ≤ 128000) : k * b ≤ 12800000 := Nat.mul_le_mul (Nat.le_trans h hn) hb
theorem dval_parts {ns : List Nat} {b L d R : Nat} (h1 : L ≤ d) (h2 : d ≤ R) (hR : R ≤ ns.length) : dval b (seg ns d R) * 2 ^ ((d - L) * b) + dval b (seg ns L d) = dval b (seg ns L R) := by
  rw [seg_split h1 h2 hR, dval_app, seg_len (Nat.le_trans h2 hR), Nat.mul_comm b, Nat.mul_comm, Nat.add_comm]
theorem dnats_at {ns : List Nat} {i : Nat} : (dnats ns).getD i 0 = ((ns.getD i 0 : Nat) : Int) := by
  rw [List.getD_eq_getElem?_getD, List.getD_eq_getElem?_getD, dnats, List.getElem?_map]
  cases ns[i]? <;> rfl
theorem dnats_len (l : List Nat) : (dnats l).length = l.length := List.length_map _
theorem seg_all (ns : List Nat) : seg ns 0 ns.length = ns := List.take_length

section
variable {w : Wd} {n : Nat} {sc : Scope} {κ : Env2} {ρ : Rho}
theorem item_nn {value slice : Expr} {ns : List Nat} {i : Nat} {Q : D → Prop} (hl : i < ns.length) (hf : i < 1000000) (q : Q (.int (ns.getD i 0 : Nat)))
    (hs : ∀ o i, subscripted slice false o i = operate [o, i] (getItem o i) := by intro _ _; rfl) : Op2 w n (subscriptTail value slice) (.list (dints (dnats ns))) (.int i) Q :=
  item_n (Nat.lt_of_lt_of_eq hl (dnats_len ns).symm) hf (dnats_at ▸ q) hs
theorem shl_k {a k m : Nat} {Q : D → Prop} (ha : a < 2 ^ m) (h : m + k ≤ 100000000) (q : Q (.int ((a * 2 ^ k : Nat) : Int))) : Op2 w n (binaryOp .LShift) (.int a) (.int k) Q :=
  shl_i (Int.natCast_nonneg k) (Int.le_trans (Int.ofNat_le.mpr (Nat.le_trans (Nat.add_le_add_right (bits_nat ha) k) h)) (by decide)) (by rw [Int.toNat_natCast, shl_nat]; exact q)
theorem exec_last {A : Around} {env : Env} {st : Stmt} {Q : Flow → Shared → Prop} {E : Value → Shared → Prop} {s : Shared} (h : wpAny (MM w) A (exec st env) Q E s) : wpAny (MM w) A (execs [st] env) Q E s :=
  wpAny_execs_cons (wpAny_mono h (fun f _ p => by cases f <;> first | exact wpAny_execs_nil p | exact p) fun _ _ x => x)
/-- what «inner» may look at -/
noncomputable def InG (F W : Nat → Prop) (a c' : Nat) : Nat → Prop := fun x => Both F W x ∨ x = a ∨ x = c'
section
variable {env : Env} {F W : Nat → Prop} {ad : Str → Nat} {s : Shared} {x1 : Str} {dx : D} {b : Int} {fd : FuncData} {a c' c1 c2 c3 : Nat} {fo co o1 o2 o3 : Obj} {v1 : Value} {rest : List (Nat × Obj)}
theorem Inn.gz (I : Inn w env κ F W ad ρ x1 dx b fd a c' c1 c2 c3 fo co o1 o2 o3 v1 s) : Gz w (InG F W a c') s := fun x h =>
  h.elim (I.R.gz2 x) fun h => h.elim (fun h => h ▸ ⟨I.oa, _, I.ha⟩) fun h => h ▸ ⟨I.oc, _, I.hc⟩
/-- the frame behind what «inner» does, that changes nothing -/
theorem Fo.ext1 (R : Fo w env F W ad κ ρ s) {G G' : Nat → Prop} {s' : Shared} (x : Ext w s G s' G') : Fo w env F W ad κ ρ s' ∧ Stp F W s F W s' :=
  have R2 := R.move x.inv (fun b o hb e => x.keepOwn (R.fz b hb).1 e) (fun b o hb e => x.keepOwn (R.wz b hb).1 e) (fun _ _ _ _ _ _ _ oc e => x.keepOwn oc e) (fun _ h => h) (fun b hb => ⟨(R.fz b hb).1, (R.fz b hb).2.elim fun o e => ⟨o, x.keepOwn (R.fz b hb).1 e⟩⟩) R.fw
  ⟨R2, x.there, fun b o e _ nt => x.keep b o e (fun h => h) nt, x.tab, x.gens, x.os, fun _ h => h, fun _ h => .inl h, fun _ h => .inl h, R2.wthere⟩
theorem Inn.ext (I : Inn w env κ F W ad ρ x1 dx b fd a c' c1 c2 c3 fo co o1 o2 o3 v1 s) {G' : Nat → Prop} {s' : Shared} (x : Ext w s F s' G') : Inn w env κ (Bar G' W) W ad ρ x1 dx b fd a c' c1 c2 c3 fo co o1 o2 o3 v1 s' ∧ Stp F W s (Bar G' W) W s' :=
  have k {c : Nat} {o : Obj} (h : Own w c) (e : s.heap.get? c = some o) : s'.heap.get? c = some o := x.keepOwn h e
  ⟨⟨(I.R.ext0 x).1, I.oa, k I.oa I.ha, I.hf, I.oc, k I.oc I.hc, I.code, I.recd, I.clos, I.l1, I.l2, I.l3, I.w1, I.w2, I.w3, k (I.R.wz _ I.w1).1 I.g1, k (I.R.wz _ I.w2).1 I.g2, k (I.R.wz _ I.w3).1 I.g3, I.h1, I.h2, I.h3, (x.rep I.R.fz I.r1).up (I.R.clean x), I.pw⟩, (I.R.ext0 x).2⟩
/-- return e, where e calls «inner» -/
theorem Inn.ret (I : Inn w env κ F W ad ρ x1 dx b fd a c' c1 c2 c3 fo co o1 o2 o3 v1 s) {A : Around} {e : Expr} {pos : Pos} {Q : D → Prop} {F₀ W₀ : Nat → Prop} {s₀ : Shared} (y : Stp F₀ W₀ s₀ F W s) (hs : env.scope = sc) (B : Bud A n) (Fr : Frm A) (t : HasAll (InG F W a c') s rest)
    (k1 : env.scope.names.lookup x1 = some .cell) (hx : (x1 == ("__classdict__" : Str)) = false) (k3 : env.scope.names.lookup ("inner" : Str) = some .cell)
    (h : EV w n sc κ [(x1, .v (some dx)), (("inner" : Str), .v (some (.clo a (objs3 a c' c1 c2 c3 fo co o1 o2 o3 rest))))] e fun d => d.imm = true ∧ Q d) : wpAny (MM w) A (exec (.Return (some e) pos) env) (PS w env κ F₀ W₀ s₀ (kFn Q)) NoE s := by
  have V {x : Str} {c : Nat} {o : Obj} {v : Value} (k : env.scope.names.lookup x = some .cell) (hx : (x == ("__classdict__" : Str)) = false) (l : env.cells.lookup x = some c) (wc : W c) (g : s.heap.get? c = some o) (d : o.data = .cell (some v)) : VarAt w env s.heap x v := .cel (.inl k) hx l (I.R.wz _ wc).1 ⟨o, g, d⟩
  have Rd2 : Rd w env (InG F W a c') κ [(x1, .v (some dx)), (("inner" : Str), .v (some (.clo a (objs3 a c' c1 c2 c3 fo co o1 o2 o3 rest))))] s := by
    refine ⟨I.R.inv, I.gz, I.R.st, fun x e d hm he => ?_, fun x d hm => (I.R.cons x d hm).elim fun v p => ⟨v, p.1.var, p.2.up fun _ h => .inl (.inl h)⟩, I.R.cells⟩
    rcases List.mem_cons.mp hm with hm | hm
    · cases hm
      cases he
      exact ⟨_, V k1 hx I.l1 I.w1 I.g1 I.h1, I.r1.up fun _ h => .inl (.inl h)⟩
    · cases List.mem_singleton.mp hm
      cases he
      exact ⟨_, V k3 (by decide +kernel) I.l3 I.w3 I.g3 I.h3, .clo (I.hasAll (fun _ h => .inl (.inr h)) (.inr (.inl rfl)) (.inr (.inr rfl)) t)⟩
  refine wpAny_Return_some (wpAny_mono (h.run A env _ s hs B Fr Rd2) (fun v s2 p => ?_) fun _ _ x => x)
  exact p.elim fun G3 d q r x => ⟨_, _, _, _, .ret d, q.2, .ret (r.imm q.1), (I.R.ext1 x).1, y.trans (I.R.ext1 x).2⟩
end
theorem f_digits2int {ns : List Nat} {b : Nat} (hb : b ≤ 128000) (hns : ns.length ≤ 100) (hd : ∀ x ∈ ns, x < 2 ^ b) : CallOk w (n + ns.length + 2) (.fn 49) [.list (dints (dnats ns)), .int b] (kEq (.int (dval b ns : Nat))) := by
  have O : FnOk 49 _ _ ["digits", "n"] ["inner"] [("len", .bi "len")] := ⟨fun P => ⟨_, _, _, rfl⟩, rfl, rfl, rfl, rfl, rfl, rfl, rfl, by intro P; kernel_rfl, all2 (fun a b => rfl), by decide +kernel, by kernel_rfl, (fall ⟨by kernel_rfl, g_len⟩ <| fall_nil)⟩
  have hlen : (dints (dnats ns)).length = ns.length := (dints_len _).trans (dnats_len ns)
  have hsz : (dints (dnats ns)).length ≤ sizeLine := Nat.le_trans (Nat.le_of_eq hlen) (Nat.le_trans hns (sz 100))
  refine CallOk.fnE O rfl fun A env G W s s₁ o => ?_
  have k1 : env.scope.names.lookup ("digits" : Str) = some NameKind.cell := by rw [o.scope]; kernel_rfl
  have k3 : env.scope.names.lookup ("inner" : Str) = some NameKind.cell := by rw [o.scope]; kernel_rfl
  refine wpAny_execs_cons (nest3 (c := 48) (P := 44) (q := "_digits2int.<locals>.inner") (x1 := "digits") (dx := .list (dints (dnats ns))) (b := b) (up := fun e => [("digits", .v (some (.list (dints (dnats ns))))), ("n", .v (some (.int b))), ("inner", e)]) o.fo (.inr rfl) (fun Pm => by kernel_rfl) (by rw [o.code]) ?_ (fun e => .skip (.skip .hit)) o.fo.inv.t2
    (fun h' tkk hx ht => o.fo.inv.table (.inr rfl) hx (fun q => nomatch q) (fun _ => ht) tkk) (fun _ => .head _) (fun _ => ix 1 rfl) (.head _) (ix 1 rfl) k1 (by rw [o.scope]; kernel_rfl) k3 (fun _ => rfl) (by decide +kernel) (by decide +kernel) rfl rfl rfl rfl fun a c' c1 c2 c3 fo co o1 o2 o3 v1 doc pm ctv s' I y => ?_)
  · unfold qualnameIn
    rw [o.qual, show env.kindOf ("inner" : Str) = some NameKind.cell from k3]
    decide +kernel
  obtain ⟨ld, us, rfl, gl, ⟨ol, gol, hlc, klen, hld⟩, rl⟩ := I.r1.inv
  have kk : KeepOk w (.clo a (objs3 a c' c1 c2 c3 fo co o1 o2 o3 [(ld, ol)])) := I.keep
  have key : ∀ (m L R : Nat), L < R → R ≤ ns.length → R - L ≤ m → CallOk w (n + m) (.clo a (objs3 a c' c1 c2 c3 fo co o1 o2 o3 [(ld, ol)])) [.int L, .int R] (kEq (.int (dval b (seg ns L R) : Nat))) := by
    intro m
    induction m with
    | zero => intro L R h1 h2 h3; exact absurd (Nat.sub_pos_of_lt h1) (Nat.not_lt.mpr h3)
    | succ m ih =>
      intro L R hLR hR hm
      refine I.call (n := n + m) (ps := ["L", "R"]) (ls := ["mid", "shift"]) ⟨rfl, rfl, rfl, rfl, rfl, rfl, all2 fun _ _ => rfl, by decide +kernel, by kernel_rfl, by kernel_rfl⟩ rfl (by kernel_rfl) (by kernel_rfl) (by kernel_rfl) (by decide +kernel) (fun _ _ _ => rfl) (fun q => .list (q _ (ix 5 rfl)).1 ⟨ol, (q _ (ix 5 rfl)).2, hlc, klen, hld⟩ (rl.imm (dints_imm _))) ?_
      refine SVs.cons <| SV.if <| TV.cmp <| EV.bin <| EV.var (.head _) <| EV.cInt <| add_i <| EV.var (ix 1 rfl) <| eq_i <| tru_b ?_
      have hLs : L < ns.length := Nat.lt_of_lt_of_le hLR hR
      by_cases hone : L + 1 = R
      · refine yes (congrArg Int.ofNat hone) ?_
        refine SVs.cons <| SV.ret <| EV.sub <| EV.con (.head _) <| EV.var (.head _) <| item_nn hLs (Nat.lt_of_lt_of_le hLs (Nat.le_trans hns (by decide))) ?_
        subst hone
        exact congrArg (fun k : Nat => D.int k) (by rw [seg_one hLs]; rfl)
      · obtain ⟨hm1, hm2, hm3, hm4⟩ := mid_in hLR hone hm
        refine no (fun q => hone (Int.ofNat_inj.mp q)) ?_
        refine SVs.nil <| SVs.cons <| SV.asg <| EV.bin <| EV.bin <| EV.var (.head _) <| EV.var (ix 1 rfl) <| add_i <| EV.cInt <| shr_n (a := L + R) (k := 1) ⟨_, put 2 rfl, ?_⟩
        rw [show (L + R) / 2 ^ 1 = (L + R) / 2 from rfl]
        generalize (L + R) / 2 = md at hm1 hm2 hm3 hm4
        have hs1 : (md - L) * b ≤ 12800000 := part_le (a := 0) (Nat.le_trans (Nat.sub_le ..) (Nat.le_trans (Nat.le_of_lt hm2) hR)) hns hb
        refine SVs.cons <| SV.asg <| EV.bin <| EV.bin <| EV.var (ix 2 rfl) <| EV.var (.head _) <| sub_i <| EV.con (ix 1 rfl) <| mul_i (small_mulR (Int.natCast_nonneg b) (Int.ofNat_le.mpr (Nat.le_trans hb (by decide)))) ?_
        rw [cast_part (Nat.le_of_lt hm1)]
        refine ⟨_, put 3 rfl, ?_⟩
        refine SVs.cons <| SV.ret <| EV.bin <| EV.bin <| EV.call <| EV.con (ix 2 rfl) ⟨kk, EVs.cons <| EV.var (ix 2 rfl) <| EVs.cons <| EV.var (ix 1 rfl) <| EVs.nil <| CallOk.to (ih md R hm2 hR hm3) <| EV.var (ix 3 rfl) ?_⟩
        refine shl_k (dval_lt b (seg ns md R) fun x hx => hd x (List.mem_of_mem_drop (List.mem_of_mem_take hx))) ?_ ?_
        · rw [seg_len hR, Nat.mul_comm]
          exact Nat.le_trans (Nat.add_le_add (part_le (a := 0) (Nat.le_trans (Nat.sub_le ..) hR) hns hb) hs1) (by decide)
        refine EV.call <| EV.con (ix 2 rfl) ⟨kk, EVs.cons <| EV.var (.head _) <| EVs.cons <| EV.var (ix 2 rfl) <| EVs.nil <| CallOk.to (ih L md hm1 (Nat.le_trans (Nat.le_of_lt hm2) hR) hm4) <| add_i ?_⟩
        exact congrArg (fun k : Nat => D.int k) (dval_parts (Nat.le_of_lt hm1) (Nat.le_of_lt hm2) hR)
  refine exec_last (I.ret (n := n + ns.length + 1) (rest := [(ld, ol)]) y rfl o.bud o.frm (.cons ⟨.inl (.inl gl), gol⟩ .nil) k1 (by decide +kernel) k3 ?_)
  refine EV.ife <| TV.val <| EV.var (.head _) <| tru_l (Int.lt_of_le_of_lt (Int.ofNat_le.mpr (Nat.le_trans (Nat.le_of_eq hlen) hns)) (by decide)) ?_
  cases ns with
  | nil => exact EV.cInt ⟨rfl, rfl⟩
  | cons x l =>
    refine yesB rfl <| EV.call <| EV.var (ix 1 rfl) ⟨kk, EVs.cons <| EV.cInt <| EVs.cons <| EV.call <| EV.con (.head _) ⟨KeepOk.bi, EVs.cons <| EV.var (.head _) <| EVs.nil <| len_l hsz <| EVs.nil ?_⟩⟩
    rw [hlen]
    exact CallOk.to (key ((x :: l).length + 1) 0 (x :: l).length (Nat.succ_pos _) (Nat.le_refl _) (Nat.le_succ _)) ⟨rfl, congrArg (fun l => D.int (dval b l : Nat)) (seg_all _)⟩
end
end Mine
end

noncomputable section
--# Lc7
namespace Mine
open PySem PySem.W PyProof.Rows PySem.Calls

/-- a frame at work, and a list besides, of which the frame knows nothing -/
structure CL (w : Wd) (env : Env) (W : Nat → Prop) (D₀ : Nat) (ad : Str → Nat) (κ : Env2) (F : Nat → Prop) (ρ : Rho) (acc : List Int) (s : Shared) : Prop where
  fo : Fo w env F W ad κ ρ s
  lst : ∃ us, LstAt s.heap D₀ us ∧ RepL s.heap F us (dints acc)
  nF : ¬ F D₀
  nW : ¬ W D₀
  own : Own w D₀
inductive PL (w : Wd) (env : Env) (κ : Env2) (D₀ : Nat) (F W : Nat → Prop) (s : Shared) (K : Fl → Rho → List Int → Prop) (fl : Flow) (s' : Shared) : Prop
  | mk (F' W' : Nat → Prop) (ad' : Str → Nat) (ρ' : Rho) (acc' : List Int) (g : Fl) (k : K g ρ' acc') (r : FlR s'.heap F' fl g) (C : CL w env W' D₀ ad' κ F' ρ' acc' s') (y : Stp F (Plus W D₀) s F' (Plus W' D₀) s')
structure SVL (w : Wd) (n : Nat) (sc : Scope) (clos : List (Str × Nat)) (D₀ : Nat) (κ : Env2) (ρ : Rho) (acc : List Int) (ss : List Stmt) (K : Fl → Rho → List Int → Prop) : Prop where
  run : ∀ (A : Around) (env : Env) (F W : Nat → Prop) (ad : Str → Nat) (s : Shared), env.scope = sc → env.cells = clos → Bud A n → Frm A → CL w env W D₀ ad κ F ρ acc s → wpAny (MM w) A (execs ss env) (PL w env κ D₀ F W s K) NoE s

/-- a call that changes the list alone -/
noncomputable def InnerC (w : Wd) (n : Nat) (a D₀ : Nat) (objs : List (Nat × Obj)) (args : List D) (acc acc' : List Int) : Prop :=
  ∀ (A : Around) (G : Nat → Prop) (s : Shared) (vs us : List Value), Bud A n → Frm A → Inv w s → Gz w G s → Rep s.heap G (.ref a) (.clo a objs) → RepL s.heap G vs args → ¬ G D₀ → Own w D₀ → LstAt s.heap D₀ us → RepL s.heap G us (dints acc) →
    wpAny (MM w) A (call (.ref a) vs) (fun _ s' => Adv w (One D₀) s G s' G ∧ ∃ us', LstAt s'.heap D₀ us' ∧ RepL s'.heap G us' (dints acc')) NoE s

section
variable {w : Wd} {n : Nat} {sc : Scope} {clos : List (Str × Nat)} {D₀ : Nat} {κ : Env2} {ρ : Rho} {acc : List Int} {K : Fl → Rho → List Int → Prop} {env : Env} {F W : Nat → Prop} {ad : Str → Nat} {s : Shared}
theorem CL.there (C : CL w env W D₀ ad κ F ρ acc s) : ∃ o, s.heap.get? D₀ = some o := let ⟨_, q, _⟩ := C.lst; q.look
theorem CL.stp {F' W' : Nat → Prop} {ad' : Str → Nat} {ρ' : Rho} {s' : Shared} (C : CL w env W D₀ ad κ F ρ acc s) (R' : Fo w env F' W' ad' κ ρ' s') (y : Stp F W s F' W' s') : CL w env W' D₀ ad' κ F' ρ' acc s' ∧ Stp F (Plus W D₀) s F' (Plus W' D₀) s' := by
  obtain ⟨us, hl, r⟩ := C.lst
  obtain ⟨o, e⟩ := C.there
  have k {o : Obj} (e : s.heap.get? D₀ = some o) : s'.heap.get? D₀ = some o := y.keep D₀ o e C.nW C.own.notTab
  exact ⟨⟨R', ⟨us, hl.at fun _ => k, r.imm (dints_imm _)⟩, fun h => (y.fnew D₀ h).elim C.nF fun q => q.elim C.nW fun q => nay q.1 e, fun h => (y.wnew D₀ h).elim C.nW fun q => nay q e, C.own⟩,
    ⟨y.there, fun b o e nw nt => y.keep b o e (fun q => nw (.inl q)) nt, y.tab, y.gens, y.os, y.fsub, fun b h => (y.fnew b h).imp_right fun q => q.imp_left .inl, fun b h => h.elim (fun h => (y.wnew b h).imp_left .inl) fun q => .inl (.inr q), fun b h => h.elim (y.wz b) fun q => q ▸ ⟨o, k e⟩⟩⟩
theorem CL.stay (C : CL w env W D₀ ad κ F ρ acc s) : Stp F (Plus W D₀) s F (Plus W D₀) s := (C.stp C.fo C.fo.stay).2
theorem PL.back {F₁ W₁ : Nat → Prop} {s₁ s' : Shared} {fl : Flow} (x : Stp F (Plus W D₀) s F₁ (Plus W₁ D₀) s₁) (p : PL w env κ D₀ F₁ W₁ s₁ K fl s') : PL w env κ D₀ F W s K fl s' :=
  let ⟨F', W', ad', ρ', acc', f, k, r, R, y⟩ := p; ⟨F', W', ad', ρ', acc', f, k, r, R, x.trans y⟩
theorem SVL.nil (k : K .next ρ acc) : SVL w n sc clos D₀ κ ρ acc [] K := ⟨fun A env F W ad s hs hc b f C => wpAny_execs_nil ⟨F, W, ad, ρ, acc, .next, k, .next, C, C.stay⟩⟩
/-- what comes next, by name -/
noncomputable def kSeqL (w : Wd) (n : Nat) (sc : Scope) (clos : List (Str × Nat)) (D₀ : Nat) (κ : Env2) (rest : List Stmt) (K : Fl → Rho → List Int → Prop) : Fl → Rho → List Int → Prop
  | .next, ρ, acc => SVL w n sc clos D₀ κ ρ acc rest K
  | .brk, ρ, acc => K .brk ρ acc
  | .cont, ρ, acc => K .cont ρ acc
  | .ret d, ρ, acc => K (.ret d) ρ acc
abbrev kPl (w : Wd) (n : Nat) (sc : Scope) (clos : List (Str × Nat)) (D₀ : Nat) (κ : Env2) (acc : List Int) (rest : List Stmt) (K : Fl → Rho → List Int → Prop) (f : Fl) (ρ : Rho) : Prop := kSeqL w n sc clos D₀ κ rest K f ρ acc
/-- a statement's end, and what follows it -/
theorem SVL.go {A : Around} {rest : List Stmt} {F₁ W₁ : Nat → Prop} {ad₁ : Str → Nat} {ρ₁ : Rho} {acc₁ : List Int} {s₁ : Shared} {fl : Flow} {g : Fl} (hs : env.scope = sc) (hc : env.cells = clos) (b : Bud A n) (f : Frm A) (k : kSeqL w n sc clos D₀ κ rest K g ρ₁ acc₁) (r : FlR s₁.heap F₁ fl g) (C : CL w env W₁ D₀ ad₁ κ F₁ ρ₁ acc₁ s₁) (y : Stp F (Plus W D₀) s F₁ (Plus W₁ D₀) s₁) :
    (match (motive := Flow → Prop) fl with
      | .next => wpAny (MM w) A (execs rest env) (PL w env κ D₀ F W s K) NoE s₁
      | f => PL w env κ D₀ F W s K f s₁) := by
  refine r.go (K := (kSeqL w n sc clos D₀ κ rest K · ρ₁ acc₁)) k (fun k => ?_) (fun k => ?_) (fun k => ?_) fun _ _ r k => ?_
  · exact wpAny_mono (k.run A env F₁ W₁ ad₁ s₁ hs hc b f C) (fun fl s2 p => p.back y) fun _ _ x => x
  · exact ⟨_, _, _, _, _, _, k, .brk, C, y⟩
  · exact ⟨_, _, _, _, _, _, k, .cont, C, y⟩
  · exact ⟨_, _, _, _, _, _, k, .ret r, C, y⟩
theorem SVL.plain {st : Stmt} {rest : List Stmt} (h : SV w n sc κ ρ st (kPl w n sc clos D₀ κ acc rest K)) : SVL w n sc clos D₀ κ ρ acc (st :: rest) K := by
  constructor
  intro A env F W ad s hs hc b f C
  refine wpAny_execs_cons (wpAny_mono (h.run A env F W ad s hs b f C.fo) (fun fl s1 p => ?_) fun _ _ x => x)
  obtain ⟨F1, W1, ad1, ρ1, g, k, r, R1, x1⟩ := p
  obtain ⟨C1, y1⟩ := C.stp R1 x1
  exact SVL.go hs hc b f k r C1 y1
theorem SVL.iff {t : Expr} {b : List Stmt} {rest : List Stmt} {pos : Pos} (h : TV w n sc κ ρ t (kIte (SVL w n sc clos D₀ κ ρ acc b (kSeqL w n sc clos D₀ κ rest K)) (SVL w n sc clos D₀ κ ρ acc rest K))) :
    SVL w n sc clos D₀ κ ρ acc (.If t b [] pos :: rest) K := by
  constructor
  intro A env F W ad s hs hc bd f C
  refine wpAny_execs_cons (wpAny_If (wpAny_mono (h.run A env _ s hs bd f C.fo.rd) (fun c s1 p1 => ?_) fun _ _ x => x))
  obtain ⟨G1, h1, x1⟩ := p1
  obtain ⟨R1, y1⟩ := C.fo.ext2 x1
  obtain ⟨C1, z1⟩ := C.stp R1 y1
  cases c with
  | false => exact wpAny_execs_nil (wpAny_mono (h1.run A env _ _ _ s1 hs hc bd f C1) (fun fl s2 p => p.back z1) fun _ _ x => x)
  | true =>
    refine wpAny_mono (h1.run A env _ _ _ s1 hs hc bd f C1) (fun fl s2 p => ?_) fun _ _ x => x
    obtain ⟨F2, W2, ad2, ρ2, acc2, g, k, r, C2, z2⟩ := p
    exact SVL.go hs hc bd f k r C2 (z1.trans z2)
theorem CL.cell (C : CL w env W D₀ ad κ F ρ acc s) : ∀ y d c, (y, d) ∈ κ → (env.kindOf y = some .cell ∨ env.kindOf y = some .free) → env.cells.lookup y = some c → c ≠ D₀ := fun y d c hm hk hc => by
  obtain ⟨v, K2, _⟩ := C.fo.cons y d hm
  obtain ⟨us, hl, _⟩ := C.lst
  cases K2 with
  | fre hk2 hx2 hc2 oc nc hv => exact fun q => lst_ne_cell hv hl ((Option.some.inj (hc2.symm.trans hc)).trans q).symm
  | glo hk2 hg => exact hk.elim (fun q => absurd (q.symm.trans hk2) (by decide)) fun q => absurd (q.symm.trans hk2) (by decide)
/-- the list changed, nothing else -/
theorem CL.change {s' : Shared} {acc' : List Int} (C : CL w env W D₀ ad κ F ρ acc s) (a : Adv w (One D₀) s F s' F) (hl : ∃ us', LstAt s'.heap D₀ us' ∧ RepL s'.heap F us' (dints acc')) : CL w env W D₀ ad κ F ρ acc' s' ∧ Stp F (Plus W D₀) s F (Plus W D₀) s' := by
  have R2 := C.fo.stepJ (a.j Nil) (fun b h q => C.nF (h ▸ q)) (fun b h q => C.nW (h ▸ q)) (fun y d c hm hk hc q => C.cell y d c hm hk hc q)
  exact ⟨⟨R2, hl, C.nF, C.nW, C.own⟩, ⟨a.there, fun b o e nw nt => a.keep b o e (fun q => nw (.inr q)) nt, a.tab, a.gens, a.os, fun _ h => h, fun _ h => .inl h, fun _ h => .inl h, fun b h => h.elim (R2.wthere b) fun q => q ▸ hl.elim fun _ p => p.1.look⟩⟩
inductive FillL (w : Wd) (n : Nat) (sc : Scope) (clos : List (Str × Nat)) (D₀ : Nat) (κ : Env2) (ρ : Rho) (a : Nat) (objs : List (Nat × Obj)) (acc : List Int) (rest : List Stmt) (K : Fl → Rho → List Int → Prop) (ds : List D) : Prop
  | mk (acc' : List Int) (c : InnerC w n a D₀ objs ds acc acc') (h : SVL w n sc clos D₀ κ ρ acc' rest K)
abbrev kInner (w : Wd) (n : Nat) (sc : Scope) (clos : List (Str × Nat)) (D₀ : Nat) (κ : Env2) (ρ : Rho) (a : Nat) (objs : List (Nat × Obj)) (acc : List Int) (rest : List Stmt) (K : Fl → Rho → List Int → Prop) (ds : List D) : Prop := FillL w n sc clos D₀ κ ρ a objs acc rest K ds
/-- inner(e ..) -/
theorem SVL.call {x : Str} {p cpos pos : Pos} {es : List Expr} {rest : List Stmt} {a : Nat} {objs : List (Nat × Obj)} (hx : (x, D.clo a objs) ∈ κ) (hk : KeepOk w (.clo a objs))
    (h : EVs w n sc κ (dropMl ρ) es (kInner w n sc clos D₀ κ ρ a objs acc rest K))
    (hst : ∀ env, (starEach es env).any (·.1) = false := by intro _; rfl)
    (hi : ∀ env : Env, env.scope = sc → env.globals = 3 → interactive env = false) (hd : (x == ("__debug__" : Str)) = false := by decide +kernel)
    (he : ∀ env, eval (.Call (.Name x p) es [] cpos) env = (do callWith cpos (← eval (.Name x p) env) [] (backTo cpos (starEach es env)) (backToKw cpos (keywordEach [] env))) := by intro _; rfl)
    (hw : ∀ env, swapsWith (.Call (.Name x p) es [] cpos) none pos.line env = pure false := by intro _; rfl) : SVL w n sc clos D₀ κ ρ acc (.Expr (.Call (.Name x p) es [] cpos) pos :: rest) K := by
  constructor
  intro A env F W ad s hs hc b f C
  refine wpAny_execs_cons (wpAny_Expr_any ?_ (hi env hs C.fo.st.glob) (hw env))
  obtain ⟨v, K2, r⟩ := C.fo.cons x _ hx
  refine Call_ (wpAny_Name (wp_loadName C.fo.inv C.fo.st K2.var ?_) hd) (he env)
  refine callWith_gen (starEach_plain es env cpos hst) (evalArgs_gen (starEach_plain es env cpos hst) (wpAny_mono (h.run A env F s cpos hs b f C.fo.rd0) (fun vs s2 q => ?_) fun _ _ x => x))
  obtain ⟨G2, ds, ⟨acc', hcall, hrest⟩, r2, x2⟩ := q
  obtain ⟨R2, y2⟩ := C.fo.ext0 x2
  obtain ⟨C2, z2⟩ := C.stp R2 y2
  have rf := (x2.rep C.fo.fz r).mono (fun _ _ _ e => e) (C.fo.clean x2)
  refine ⟨hk.run s2 _ v R2.inv rf, ?_⟩
  obtain rfl := r.inv.1
  obtain ⟨us, hl, ru⟩ := C2.lst
  refine wpAny_mono (hcall A _ s2 vs us b f R2.inv R2.fz rf (r2.mono (fun _ _ _ e => e) (C.fo.clean x2)) C2.nF C2.own hl ru) (fun _ s3 q => ?_) fun _ _ x => x
  obtain ⟨a3, hl3⟩ := q
  obtain ⟨C3, z3⟩ := C2.change a3 hl3
  exact wpAny_mono (hrest.run A env _ _ _ s3 hs hc b f C3) (fun fl s4 p => p.back (z2.trans z3)) fun _ _ x => x
inductive SetAt (w : Wd) (n : Nat) (sc : Scope) (clos : List (Str × Nat)) (D₀ : Nat) (κ : Env2) (ρ : Rho) (acc : List Int) (rest : List Stmt) (K : Fl → Rho → List Int → Prop) (d di : D) : Prop
  | mk (k : Int) (j : Nat) (hd : d = .int k) (hi : di = .int j) (hj : j < acc.length) (hj2 : (j : Int) < 2 ^ 63) (h : SVL w n sc clos D₀ κ ρ (acc.set j k) rest K)
abbrev kSetL (w : Wd) (n : Nat) (sc : Scope) (clos : List (Str × Nat)) (D₀ : Nat) (κ : Env2) (ρ : Rho) (i : Expr) (acc : List Int) (rest : List Stmt) (K : Fl → Rho → List Int → Prop) (d : D) : Prop := EV w n sc κ (dropMl ρ) i (SetAt w n sc clos D₀ κ ρ acc rest K d)
/-- a_digits[i] = e -/
theorem SVL.set {x xi : Str} {p tp pos : Pos} {i e : Expr} {rest : List Stmt} {a ca : Nat} {oca : Obj} {objs : List (Nat × Obj)} (hx : (xi, D.clo a objs) ∈ κ) (ho : (ca, oca) ∈ objs) (hoc : oca.data = .cell (some (.ref D₀)))
    (hkx : sc.names.lookup x = some .free) (hcx : clos.lookup x = some ca) (hcd : (x == ("__classdict__" : Str)) = false)
    (h : EV w n sc κ (dropMl ρ) e (kSetL w n sc clos D₀ κ ρ i acc rest K))
    (hw : ∀ env, swapsWith e (some (.Subscript (.Name x p) i tp)) pos.line env = pure false := by intro _; rfl)
    (hd : (x == ("__debug__" : Str)) = false := by decide +kernel) : SVL w n sc clos D₀ κ ρ acc (.Assign [.Subscript (.Name x p) i tp] e pos :: rest) K := by
  constructor
  intro A env F W ad s hs hc b f C
  refine wpAny_execs_cons (wpAny_Assign_Subscript (wpAny_mono (h.run A env F s hs b f C.fo.rd0) (fun v s1 p1 => ?_) fun _ _ x => x) (hw env))
  obtain ⟨G1, d, h1, r1, x1⟩ := p1
  obtain ⟨R1, y1⟩ := C.fo.ext0 x1
  obtain ⟨C1, z1⟩ := C.stp R1 y1
  obtain ⟨vv, K2, rr⟩ := C1.fo.cons xi _ hx
  have hcell : s1.heap.IsCell ca (some (.ref D₀)) := by
    exact ⟨oca, (rr.inv.2 _ ho).2, hoc⟩
  refine wpAny_Name (wpAny_loadName_free C1.fo.st.kind (by unfold Env.kindOf; rw [hs]; exact hkx) (by rw [hc]; exact hcx) hcell ?_ hcd) hd
  refine wpAny_mono (h1.run A env _ s1 hs b f C1.fo.rd0) (fun vi s2 p2 => ?_) fun _ _ x => x
  obtain ⟨G2, di, ⟨k, j, rfl, rfl, hj, hj2, hrest⟩, r2, x2⟩ := p2
  obtain ⟨R2, y2⟩ := C1.fo.ext0 x2
  obtain ⟨C2, z2⟩ := C1.stp R2 y2
  obtain ⟨us, hl, ru⟩ := C2.lst
  cases r2 using Rep.intE with
  | int t =>
    have hlen : us.length = acc.length := ru.length.trans (dints_len acc)
    refine wp_setItem hl (Int.natCast_nonneg j) hj2 (hlen.symm ▸ hj) fun h' hp hsb => ?_
    obtain ⟨o, ko, hoo, hcls, _, hdd⟩ := id hl
    obtain ⟨o', ko', hoo', _⟩ := id hp
    obtain ⟨C3, z3⟩ := C2.change (acc' := acc.set j k) (Adv.modify (W := One D₀) R2.inv C2.own rfl hoo (fun vs q => by rw [hdd] at q; cases q) hsb hoo' s2.toks) ⟨_, hp, by
      have := (ru.imm (G' := fun _ => True) (h' := h') (dints_imm _)).set j (r1.imm (G' := fun _ => True) (h' := h') rfl)
      rw [Int.toNat_natCast]
      rw [dints_set] at this
      exact this.imm (dints_imm _)⟩
    exact wpAny_mono (hrest.run A env _ _ _ _ hs hc b f C3) (fun fl s4 p => p.back ((z1.trans z2).trans z3)) fun _ _ x => x
end
end Mine
end

noncomputable section
--# Wb14
namespace Mine
open PySem PySem.W PyProof.Rows PySem.Calls

/-- k digits of a -/
noncomputable def digs (n : Nat) : Nat → Nat → List Nat
  | 0, _ => []
  | k + 1, a => (a % 2 ^ n) :: digs n k (a / 2 ^ n)
noncomputable def kM (b a : Nat) : Nat := (bits (a : Int) + b - 1) / b
noncomputable def setSeg (acc : List Int) (L : Nat) (ds : List Nat) : List Int := acc.take L ++ dnats ds ++ acc.drop (L + ds.length)
theorem digs_len (n : Nat) : ∀ k a, (digs n k a).length = k
  | 0, _ => rfl
  | k + 1, a => by rw [digs, List.length_cons, digs_len n k]
theorem digs_app (n : Nat) : ∀ (p q x : Nat), digs n (p + q) x = digs n p (x % 2 ^ (n * p)) ++ digs n q (x / 2 ^ (n * p))
  | 0, q, x => by simp [digs]
  | p + 1, q, x => by
    rw [show p + 1 + q = (p + q) + 1 by omega, digs, digs, List.cons_append, digs_app n p q (x / 2 ^ n)]
    have e1 : 2 ^ (n * (p + 1)) = 2 ^ n * 2 ^ (n * p) := by rw [Nat.mul_succ, Nat.pow_add, Nat.mul_comm]
    rw [e1, Nat.mod_mul_right_mod, Nat.mod_mul_right_div_self, Nat.div_div_eq_div_mul]
theorem digs_one {n x : Nat} (h : x < 2 ^ n) : digs n 1 x = [x] := by
  rw [digs, digs, Nat.mod_eq_of_lt h]
theorem set_seg {acc : List Int} {L x : Nat} (h : L < acc.length) : acc.set L x = setSeg acc L [x] := by
  rw [setSeg, List.set_eq_take_append_cons_drop, if_pos h]
  simp [dnats]
theorem setSeg_len {acc : List Int} {L : Nat} {ds : List Nat} (h : L + ds.length ≤ acc.length) : (setSeg acc L ds).length = acc.length := by
  simp only [setSeg, List.length_append, List.length_take, List.length_drop, dnats_len]; omega
theorem setSeg_app {acc : List Int} {L : Nat} {d1 d2 : List Nat} (h : L + d1.length + d2.length ≤ acc.length) : setSeg (setSeg acc L d1) (L + d1.length) d2 = setSeg acc L (d1 ++ d2) := by
  have hl : (acc.take L ++ dnats d1).length = L + d1.length := by
    simp only [List.length_append, List.length_take, dnats_len]; omega
  unfold setSeg
  rw [List.take_append_of_le_length (by rw [hl]; exact Nat.le_refl _), List.take_of_length_le (by rw [hl]; exact Nat.le_refl _)]
  rw [List.drop_append, List.drop_of_length_le (by rw [hl]; omega), List.nil_append, List.drop_drop, hl]
  simp only [dnats, List.map_append, List.append_assoc, List.length_append]
  congr 4
  omega
theorem setSeg_full {acc : List Int} {ds : List Nat} (h : ds.length = acc.length) : setSeg acc 0 ds = dnats ds := by
  unfold setSeg
  rw [List.drop_of_length_le (by omega)]; simp
theorem kM_lt {b a : Nat} (hb : 1 ≤ b) : a < 2 ^ (b * kM b a) := by
  have h1 : bits (a : Int) ≤ b * kM b a := by
    unfold kM
    have := Nat.div_add_mod (bits (a : Int) + b - 1) b
    have := Nat.mod_lt (bits (a : Int) + b - 1) hb
    omega
  have h2 := intBits_le_iff.mp h1
  simpa using h2

section
variable {w : Wd} {n : Nat} {sc : Scope} {κ : Env2} {ρ : Rho}
theorem xor_n {x k : Nat} {Q : D → Prop} (q : Q (.int ((x % 2 ^ k : Nat) : Int))) : Op2 w n (binaryOp .BitXor) (.int x) (.int ((x / 2 ^ k * 2 ^ k : Nat) : Int)) Q :=
  xor_i (by rw [bxor_mod]; exact q)
theorem shl_m {a k : Nat} {Q : D → Prop} (hk : k ≤ 40000000) (ha : bits (a : Int) ≤ 40000000) (q : Q (.int ((a * 2 ^ k : Nat) : Int))) : Op2 w n (binaryOp .LShift) (.int a) (.int k) Q :=
  shl_i (Int.natCast_nonneg k) (Int.le_trans (Int.ofNat_le.mpr (Nat.add_le_add ha hk)) (by decide)) (by rw [Int.toNat_natCast, shl_nat]; exact q)
/-- what a list's filling leaves -/
abbrev kFill (acc' : List Int) (_ : Fl) (_ : Rho) (acc : List Int) : Prop := acc = acc'
section
variable {env : Env} {F W F₀ W₀ : Nat → Prop} {ad : Str → Nat} {s s₀ : Shared} {x1 : Str} {dx : D} {b : Int} {fd : FuncData} {a c' c1 c2 c3 D₀ : Nat} {fo co o1 o2 o3 : Obj} {v1 : Value} {acc acc' : List Int}
/-- inner(..), that changes the list alone -/
theorem Inn.callL (I : Inn w env κ F W ad ρ x1 dx b fd a c' c1 c2 c3 fo co o1 o2 o3 v1 s) {body : List Stmt} {ps ls : List Str} {args : List D} (O : CloOk fd body ps ls) (hlen : ps.length = args.length) (kn : fd.scope.names.lookup ("n" : Str) = some .free) (ki : fd.scope.names.lookup ("inner" : Str) = some .free)
    (h : SVL w n fd.scope fd.closure D₀ [(("n" : Str), D.int b), (("inner" : Str), .clo a (objs3 a c' c1 c2 c3 fo co o1 o2 o3 []))] (initR ps args ++ noneR ls) acc body (kFill acc')) : InnerC w (n + 1) a D₀ (objs3 a c' c1 c2 c3 fo co o1 o2 o3 []) args acc acc' := by
  intro A G s vs us bd f i z rf ra nG oD hl ru
  have q := rf.inv.2
  refine wpAny_call (clo_enter O hlen (q _ (.head _)).2 I.hf (I.recAt q) (I.clos ▸ I.pw) (I.cons z q kn ki) bd i z ra fun env L s₁ o hcl => ?_)
  obtain ⟨oD1, eD1⟩ := hl.look
  have nL : D₀ ≠ L := fun q => nay (o.fresh D₀ q) eD1
  have C : CL w env (One L) D₀ (fun _ => 0) _ G _ acc s₁ := ⟨o.fo, ⟨us, hl.at fun o' e => o.ext.keepOwn oD e, ru.imm (dints_imm _)⟩, nG, nL, oD⟩
  refine wpAny_mono (h.run (A.deeper env) env G (One L) _ s₁ o.scope hcl o.bud o.frm C) (fun fl s6 p => ?_) fun _ _ x => x
  obtain ⟨F6, W6, ad6, ρ6, acc6, g6, rfl, _, C6, z6⟩ := p
  obtain ⟨us6, hl6, ru6⟩ := C6.lst
  exact ⟨⟨fun c o' e => (o.ext.there c o' e).elim fun o' e' => z6.there c o' e', fun c o' e nw nt => z6.keep c o' (o.ext.keep c o' e (fun h => h) nt) (fun q => q.elim (fun q => nay (o.fresh c q) e) nw) nt, fun c hc => (o.ext.tab c hc).trans (z6.tab c hc), fun j g e => z6.gens j g (o.ext.gens j g e), z6.os.trans o.ext.os, C6.fo.inv, fun _ h => h, fun _ h => .inl h⟩, us6, hl6, ru6.imm (dints_imm _)⟩
/-- x = [..], a list that «inner» will fill: the frame keeps its place alone -/
theorem list_name {A : Around} {Q : Flow → Shared → Prop} {x : Str} {p pos : Pos} {e : Expr} {up : Nat → Rho} (R : Fo w env F W ad κ ρ s) (hs : env.scope = sc) (B : Bud A n) (Fr : Frm A) (h : EN w n sc κ (dropMl ρ) e fun ds => ds = dints acc) (hput : ∀ D₀, Put ρ x (.v (some (.fn D₀))) (up D₀))
    (hw : swapsWith e (some (.Name x p)) pos.line env = pure false) (k : ∀ D₀ F' s', CL w env W D₀ ad κ F' (up D₀) acc s' → Stp F (Plus W D₀) s F' (Plus W D₀) s' → s.heap.get? D₀ = none → Q .next s') : wpAny (MM w) A (exec (.Assign [.Name x p] e pos) env) Q NoE s := by
  refine wpAny_Assign_Name (wpAny_mono (h.run A env F s hs B Fr R.rd0) (fun v s2 p1 => ?_) fun _ _ x => x) hw
  obtain ⟨G1, D₀, vs0, ds, rfl, rfl, hD, hg, hl0, r0, x1⟩ := p1
  obtain ⟨R1, y1⟩ := R.ext0 x1
  have nD : ¬ W D₀ := fun q => (R.wthere D₀ q).elim fun o e => nay hD e
  have oD : Own w D₀ := R.inv.own hD
  refine R1.store (hput D₀) (.fn D₀) fun s3 R3 a3 => ?_
  have hl3 : LstAt s3.heap D₀ vs0 := hl0.at fun o e => a3.keep D₀ o e nD oD.notTab
  have y := y1.trans (a3.stp R1.wthere)
  exact k D₀ _ s3 ⟨R3, ⟨vs0, hl3, r0.imm (dints_imm _)⟩, fun h => hg h.1, nD, oD⟩ ⟨y.there, fun b o e nw nt => y.keep b o e (fun q => nw (.inl q)) nt, y.tab, y.gens, y.os, y.fsub, fun b h => (y.fnew b h).imp_right fun q => q.imp_left .inl, fun b h => h.elim (fun h => (y.wnew b h).imp_left .inl) fun q => .inl (.inr q), fun b h => h.elim (y.wz b) fun q => q ▸ hl3.look⟩ hD
inductive FillP (w : Wd) (env : Env) (κ : Env2) (W : Nat → Prop) (D₀ : Nat) (ad : Str → Nat) (ρ : Rho) (acc : List Int) (F₀ : Nat → Prop) (s₀ : Shared) : Flow → Shared → Prop
  | mk {F : Nat → Prop} {s : Shared} (C : CL w env W D₀ ad κ F ρ acc s) (z : Stp F₀ (Plus W D₀) s₀ F (Plus W D₀) s) : FillP w env κ W D₀ ad ρ acc F₀ s₀ .next s
theorem FillP.back {s₁ : Shared} {F₁ : Nat → Prop} {f : Flow} (z : Stp F₀ (Plus W D₀) s₀ F₁ (Plus W D₀) s₁) (p : FillP w env κ W D₀ ad ρ acc F₁ s₁ f s) : FillP w env κ W D₀ ad ρ acc F₀ s₀ f s := FillP.casesOn (motive := fun f s _ => FillP w env κ W D₀ ad ρ acc F₀ s₀ f s) p fun C z' => ⟨C, z.trans z'⟩
/-- inner(e ..) in the frame that holds it -/
theorem Inn.fill (I : Inn w env κ F W ad ρ x1 (.fn D₀) b fd a c' c1 c2 c3 fo co o1 o2 o3 v1 s) (C : CL w env W D₀ ad κ F ρ acc s) {A : Around} {es : List Expr} {args : List D} {p cpos pos : Pos} {xa : Str} {av : Int} (hs : env.scope = sc) (B : Bud A n) (Fr : Frm A)
    (k1 : env.scope.names.lookup x1 = some .cell) (hx : (x1 == ("__classdict__" : Str)) = false) (k3 : env.scope.names.lookup ("inner" : Str) = some .cell) (ha : (xa, Ent.v (some (.int av))) ∈ ρ) (hes : EVs w n sc κ [(xa, .v (some (.int av))), (x1, .v (some (.list (dints acc))))] es fun ds => ds = args) (im : ∀ d ∈ args, d.imm = true)
    (hst : ∀ env, (starEach es env).any (·.1) = false) (hi : interactive env = false) (he : eval (.Call (.Name ("inner" : Str) p) es [] cpos) env = (do callWith cpos (← eval (.Name ("inner" : Str) p) env) [] (backTo cpos (starEach es env)) (backToKw cpos (keywordEach [] env)))) (hw : swapsWith (.Call (.Name ("inner" : Str) p) es [] cpos) none pos.line env = pure false)
    (hc : InnerC w n a D₀ (objs3 a c' c1 c2 c3 fo co o1 o2 o3 []) args acc acc') : wpAny (MM w) A (exec (.Expr (.Call (.Name ("inner" : Str) p) es [] cpos) pos) env) (FillP w env κ W D₀ ad ρ acc' F s) NoE s := by
  obtain ⟨us, hl, ru⟩ := C.lst
  obtain ⟨oD, kD, eD, _, _, dD⟩ := id hl
  obtain rfl := I.r1.inv
  have V {x : Str} {c : Nat} {o : Obj} {v : Value} (k : env.scope.names.lookup x = some .cell) (hx : (x == ("__classdict__" : Str)) = false) (l : env.cells.lookup x = some c) (wc : W c) (g : s.heap.get? c = some o) (d : o.data = .cell (some v)) : VarAt w env s.heap x v := .cel (.inl k) hx l (I.R.wz _ wc).1 ⟨o, g, d⟩
  have Rd2 : Rd w env (Plus (Both F W) D₀) κ [(xa, .v (some (.int av))), (x1, .v (some (.list (dints acc))))] s := by
    refine ⟨I.R.inv, fun x h => h.elim (I.R.gz2 x) fun h => h ▸ ⟨C.own, oD, eD⟩, I.R.st, fun x e d hm he => ?_, fun x d hm => (I.R.cons x d hm).elim fun v p => ⟨v, p.1.var, p.2.up fun _ h => .inl (.inl h)⟩, I.R.cells⟩
    rcases List.mem_cons.mp hm with hm | hm
    · cases hm
      cases he
      obtain ⟨v, S, r⟩ := I.R.ents _ _ ha
      exact ⟨v, S.var (I.R.wz _ I.R.wl).1 fun a h => (I.R.wz a h).1, r.imm rfl⟩
    · cases List.mem_singleton.mp hm
      cases he
      exact ⟨_, V k1 hx I.l1 I.w1 I.g1 I.h1, .list (.inr rfl) hl.isList (ru.imm (dints_imm _))⟩
  refine wpAny_Expr_any (Call_ (wpAny_Name (wp_loadName I.R.inv I.R.st (V k3 (by decide +kernel) I.l3 I.w3 I.g3 I.h3) ?_) (by decide +kernel)) he) hi hw
  refine callWith_gen (starEach_plain es env cpos hst) (evalArgs_gen (starEach_plain es env cpos hst) (wpAny_mono (hes.run A env _ s cpos hs B Fr Rd2) (fun vs s2 q => ?_) fun _ _ x => x))
  obtain ⟨G2, ds, rfl, r2, x2⟩ := q
  obtain ⟨R2, y2⟩ := I.R.ext1 x2
  obtain ⟨C2, z2⟩ := C.stp R2 y2
  have all : HasAll (InG F W a c') s2 (objs3 a c' c1 c2 c3 fo co o1 o2 o3 []) := fun p hp =>
    have h := I.hasAll (G := InG F W a c') (fun _ h => .inl (.inr h)) (.inr (.inl rfl)) (.inr (.inr rfl)) .nil p hp
    ⟨h.1, x2.keepOwn (I.gz _ h.1).1 h.2⟩
  have rf : Rep s2.heap (InG F W a c') (.ref a) (.clo a (objs3 a c' c1 c2 c3 fo co o1 o2 o3 [])) := .clo all
  refine ⟨I.keep.run s2 _ _ x2.inv rf, ?_⟩
  have nD : ¬ InG F W a c' D₀ := fun h => h.elim (fun h => h.elim C.nF C.nW) fun h => h.elim (fun q => by
    have h := congrArg Obj.data (Option.some.inj (eD.symm.trans (q ▸ I.ha)))
    exact nomatch (dD.symm.trans h).trans I.hf) fun q => by
    obtain ⟨vs, t, h1, _⟩ := I.recd
    have h := congrArg Obj.data (Option.some.inj (eD.symm.trans (q ▸ I.hc)))
    exact nomatch (dD.symm.trans h).trans h1
  obtain ⟨us2, hl2, ru2⟩ := C2.lst
  refine wpAny_mono (hc A (InG F W a c') s2 vs us2 B Fr x2.inv (fun x h => ⟨(I.gz x h).1, (I.gz x h).2.elim fun o e => ⟨o, x2.keepOwn (I.gz x h).1 e⟩⟩) rf (r2.imm im) nD C.own hl2 (ru2.imm (dints_imm _))) (fun _ s3 q => ?_) fun _ _ x => x
  obtain ⟨a3, us3, hl3, ru3⟩ := q
  obtain ⟨C3, z3⟩ := C2.change (acc' := acc') ⟨a3.there, a3.keep, a3.tab, a3.gens, a3.os, a3.inv, fun _ h => h, fun _ h => .inl h⟩ ⟨us3, hl3, ru3.imm (dints_imm _)⟩
  exact ⟨C3, z2.trans z3⟩
/-- return x, the list -/
theorem CL.ret (C : CL w env W D₀ ad κ F ρ acc s) {A : Around} (y : Stp F₀ (Plus W₀ D₀) s₀ F (Plus W D₀) s) {x : Str} {p pos : Pos} (hx : (x, Ent.v (some (.fn D₀))) ∈ ρ) (hD : s₀.heap.get? D₀ = none) (hd : (x == ("__debug__" : Str)) = false) : wpAny (MM w) A (exec (.Return (some (.Name x p)) pos) env) (PS w env κ F₀ W₀ s₀ (kFn (kEq (.list (dints acc))))) NoE s := by
  obtain ⟨us, hl, ru⟩ := C.lst
  obtain ⟨oD, e⟩ := hl.look
  obtain ⟨v, S, r⟩ := C.fo.ents _ _ hx
  obtain rfl := r.inv
  exact wpAny_Return_some (wpAny_Name (wp_loadName C.fo.inv C.fo.st (S.var (C.fo.wz _ C.fo.wl).1 fun a h => (C.fo.wz a h).1) ⟨Plus F D₀, W, _, _, .ret (.list (dints acc)), rfl, .ret (.list (.inr rfl) hl.isList (ru.imm (dints_imm _))), C.fo.grow C.own e C.nW,
    ⟨y.there, fun b o q nw nt => y.keep b o q (fun h => h.elim nw fun h => nay (h ▸ hD) q) nt, y.tab, y.gens, y.os, fun a h => .inl (y.fsub a h),
      fun a h => h.elim (fun h => (y.fnew a h).imp_right fun h => h.elim (fun h => h.elim .inl fun h => .inr (h ▸ ⟨hD, oD, e⟩)) .inr) fun h => .inr (.inr (h ▸ ⟨hD, oD, e⟩)), fun a h => (y.wnew a (.inl h)).elim (fun h => h.elim .inl fun h => .inr (h ▸ hD)) .inr, fun a h => y.wz a (.inl h)⟩⟩) hd)
end
/-- the cuts of a number -/
theorem parts_of {x b L d R : Nat} (h1 : L < d) (h2 : d < R) (hx : x < 2 ^ (b * (R - L))) : x % 2 ^ (b * (d - L)) < 2 ^ (b * (d - L)) ∧ x / 2 ^ (b * (d - L)) < 2 ^ (b * (R - d)) := by
  refine ⟨Nat.mod_lt _ (Nat.two_pow_pos _), Nat.div_lt_of_lt_mul ?_⟩
  rw [← Nat.pow_add, ← Nat.mul_add, Nat.add_comm, Nat.sub_add_sub_cancel (Nat.le_of_lt h2) (Nat.le_of_lt h1)]; exact hx
theorem setSeg_parts {acc : List Int} {x b L d R : Nat} (h1 : L < d) (h2 : d < R) (hR : R ≤ acc.length) : setSeg (setSeg acc L (digs b (d - L) (x % 2 ^ (b * (d - L))))) d (digs b (R - d) (x / 2 ^ (b * (d - L)))) = setSeg acc L (digs b (R - L) x) := by
  have h := setSeg_app (acc := acc) (L := L) (d1 := digs b (d - L) (x % 2 ^ (b * (d - L)))) (d2 := digs b (R - d) (x / 2 ^ (b * (d - L)))) (by rw [digs_len, digs_len]; omega)
  rw [digs_len, Nat.add_sub_cancel' (Nat.le_of_lt h1), ← digs_app, Nat.add_comm, Nat.sub_add_sub_cancel (Nat.le_of_lt h2) (Nat.le_of_lt h1)] at h
  exact h
theorem kM_int {b a : Nat} (hb : 1 ≤ b) : ((kM b a : Nat) : Int) = (((bits (a : Int) : Nat) : Int) + b - 1).fdiv b := by
  unfold kM
  rw [Int.fdiv_eq_ediv_of_nonneg _ (Int.natCast_nonneg b), Int.natCast_ediv, Int.natCast_sub (Nat.le_trans hb (Nat.le_add_left ..)), Int.natCast_add]
  rfl
theorem kM_zero {b : Nat} (hb : 1 ≤ b) : kM b 0 = 0 := Nat.div_eq_of_lt (Nat.lt_of_le_of_lt (Nat.le_of_eq (congrArg (· - 1) (Nat.zero_add b))) (Nat.sub_lt hb Nat.one_pos))
theorem f_int2digits {av b : Nat} (hb1 : 1 ≤ b) (hb : b ≤ 128000) (hk : kM b av ≤ 100) : CallOk w (n + kM b av + 2) (.fn 42) [.int av, .int b] (kEq (.list (dints (dnats (digs b (kM b av) av))))) := by
  have O : FnOk 42 _ _ ["a", "n"] ["a_digits", "inner"] [("len", .bi "len")] := ⟨fun P => ⟨_, _, _, rfl⟩, rfl, rfl, rfl, rfl, rfl, rfl, rfl, by intro P; kernel_rfl, all2 (fun a b => rfl), by decide +kernel, by kernel_rfl, (fall ⟨by kernel_rfl, g_len⟩ <| fall_nil)⟩
  refine CallOk.fnE O rfl fun A env G W s s₁ o => ?_
  have k1 : env.scope.names.lookup ("a_digits" : Str) = some NameKind.cell := by rw [o.scope]; kernel_rfl
  have k3 : env.scope.names.lookup ("inner" : Str) = some NameKind.cell := by rw [o.scope]; kernel_rfl
  have hlk : (dints (List.replicate (kM b av) 0)).length = kM b av := (dints_len _).trans List.length_replicate
  refine wpAny_execs_cons (list_name (n := n + kM b av + 1) (acc := List.replicate (kM b av) 0) (up := fun D₀ => [("a", .v (some (.int av))), ("n", .v (some (.int b))), ("a_digits", .v (some (.fn D₀))), ("inner", .v none)]) o.fo rfl o.bud o.frm ?_ (fun _ => .skip (.skip .hit)) rfl fun D₀ F3 s3 C3 y3 hD => ?_)
  · refine EN.bin <| EV.ofN <| EN.disp <| EVs.cons <| EV.cInt <| EVs.nil ⟨sz 1, EV.bin <| EV.bin <| EV.bin <| EV.meth <| EV.var (.head _) ⟨_, meth_bits, KeepOk.bi, EVs.nil <| bits_ok <| EV.var (ix 1 rfl) <| add_i <| EV.cInt <| sub_i <| EV.var (ix 1 rfl) <| fdiv_i (Int.ne_of_gt (Int.ofNat_lt.mpr hb1)) ?_⟩⟩
    refine as (Q := fun k : Int => Op2N w _ _ _ (.int k) _) (kM_int hb1).symm (mul_lN (Int.ofNat_le.mpr (Nat.le_trans hk (sz 100))) (Int.le_trans (by decide) (Int.natCast_nonneg _)) ?_)
    exact List.map_replicate.symm
  refine wpAny_execs_cons (nest3 (c := 41) (P := 37) (q := "_int2digits.<locals>.inner") (x1 := "a_digits") (dx := .fn D₀) (b := b) (up := fun e => [("a", .v (some (.int av))), ("n", .v (some (.int b))), ("a_digits", .v (some (.fn D₀))), ("inner", e)]) C3.fo (.inl rfl) (fun Pm => by kernel_rfl) (by rw [o.code]) ?_ (fun e => .skip (.skip (.skip .hit))) C3.fo.inv.t1
    (fun h' tkk hx ht => C3.fo.inv.table (.inl rfl) hx (fun _ => ht) (fun q => nomatch q) tkk) (fun _ => ix 2 rfl) (fun _ => ix 1 rfl) (ix 2 rfl) (ix 1 rfl) k1 (by rw [o.scope]; kernel_rfl) k3 (fun _ => rfl) (by decide +kernel) (by decide +kernel) rfl rfl rfl rfl fun a c' c1 c2 c3 fo co o1 o2 o3 v1 doc pm ctv s' I y4 => ?_)
  · unfold qualnameIn
    rw [o.qual, show env.kindOf ("inner" : Str) = some NameKind.cell from k3]
    decide +kernel
  obtain ⟨C4, z4⟩ := C3.stp I.R y4
  obtain rfl := I.r1.inv
  have kk : KeepOk w (.clo a (objs3 a c' c1 c2 c3 fo co o1 o2 o3 [])) := I.keep
  have key : ∀ (m x L R : Nat) (acc : List Int), L < R → R ≤ acc.length → acc.length ≤ 100 → R - L ≤ m → x < 2 ^ (b * (R - L)) → InnerC w (n + m) a D₀ (objs3 a c' c1 c2 c3 fo co o1 o2 o3 []) [.int x, .int L, .int R] acc (setSeg acc L (digs b (R - L) x)) := by
    intro m
    induction m with
    | zero => intro x L R acc h1 h2 h3 h4; exact absurd (Nat.sub_pos_of_lt h1) (Nat.not_lt.mpr h4)
    | succ m ih =>
      intro x L R acc hLR hR hacc hm hx
      refine I.callL (n := n + m) (ps := ["x", "L", "R"]) (ls := ["mid", "shift", "upper", "lower"]) ⟨rfl, rfl, rfl, rfl, rfl, rfl, all3 fun _ _ _ => rfl, by decide +kernel, by kernel_rfl, by kernel_rfl⟩ rfl (by kernel_rfl) (by kernel_rfl) ?_
      refine SVL.iff <| TV.cmp <| EV.bin <| EV.var (ix 1 rfl) <| EV.cInt <| add_i <| EV.var (ix 2 rfl) <| eq_i <| tru_b ?_
      have hLa : L < acc.length := Nat.lt_of_lt_of_le hLR hR
      by_cases hone : L + 1 = R
      · refine yes (congrArg Int.ofNat hone) ?_
        refine SVL.set (xi := "inner") (ca := c1) (oca := o1) (ix 1 rfl) (ix 2 rfl) I.h1 (by kernel_rfl) (by rw [I.clos]; rfl) (by decide +kernel) <| EV.var (.head _) <| EV.var (ix 1 rfl) ⟨_, L, rfl, rfl, hLa, Int.lt_of_lt_of_le (Int.ofNat_lt.mpr (Nat.lt_of_lt_of_le hLa hacc)) (by decide), SVL.plain <| SV.ret0 ?_⟩
        subst hone
        show acc.set L x = _
        rw [set_seg hLa, show L + 1 - L = 1 from Nat.add_sub_cancel_left L 1, digs_one (by rw [Nat.add_sub_cancel_left, Nat.mul_one] at hx; exact hx)]
      · obtain ⟨hm1, hm2, hm3, hm4⟩ := mid_in hLR hone hm
        refine no (fun q => hone (Int.ofNat_inj.mp q)) ?_
        refine SVL.plain <| SV.asg <| EV.bin <| EV.bin <| EV.var (ix 1 rfl) <| EV.var (ix 2 rfl) <| add_i <| EV.cInt <| shr_n (a := L + R) (k := 1) ⟨_, put 3 rfl, ?_⟩
        rw [show (L + R) / 2 ^ 1 = (L + R) / 2 from rfl]
        generalize (L + R) / 2 = md at hm1 hm2 hm3 hm4
        have hR1 : R ≤ 100 := Nat.le_trans hR hacc
        have hs1 : (md - L) * b ≤ 12800000 := part_le (a := 0) (Nat.le_trans (Nat.sub_le ..) (Nat.le_of_lt hm2)) hR1 hb
        refine SVL.plain <| SV.asg <| EV.bin <| EV.bin <| EV.var (ix 3 rfl) <| EV.var (ix 1 rfl) <| sub_i <| EV.con (.head _) <| mul_i (small_mulR (Int.natCast_nonneg b) (Int.ofNat_le.mpr (Nat.le_trans hb (by decide)))) ?_
        rw [cast_part (Nat.le_of_lt hm1), Nat.mul_comm]
        rw [Nat.mul_comm] at hs1
        refine ⟨_, put 4 rfl, SVL.plain <| SV.asg <| EV.bin <| EV.var (.head _) <| EV.var (ix 4 rfl) <| shr_n ⟨_, put 5 rfl, ?_⟩⟩
        have hub : bits ((x / 2 ^ (b * (md - L)) : Nat) : Int) ≤ 40000000 := bits_mono (bits_nat (Nat.lt_of_le_of_lt (Nat.div_le_self _ _) hx)) (by
          rw [Nat.mul_comm]; exact Nat.le_trans (part_le (a := 0) (Nat.sub_le ..) hR1 hb) (by decide))
        refine SVL.plain <| SV.asg <| EV.bin <| EV.var (.head _) <| EV.bin <| EV.var (ix 5 rfl) <| EV.var (ix 4 rfl) <| shl_m (Nat.le_trans hs1 (by decide)) hub <| xor_n ⟨_, put 6 rfl, ?_⟩
        obtain ⟨hlo, hup⟩ := parts_of hm1 hm2 hx
        have acl : (setSeg acc L (digs b (md - L) (x % 2 ^ (b * (md - L))))).length = acc.length := setSeg_len (by rw [digs_len, Nat.add_sub_cancel' (Nat.le_of_lt hm1)]; exact Nat.le_trans (Nat.le_of_lt hm2) hR)
        refine SVL.call (a := a) (ix 1 rfl) kk (hi := (by intro env h g; cases env; subst h; rfl)) (h := EVs.cons <| EV.var (ix 6 rfl) <| EVs.cons <| EV.var (ix 1 rfl) <| EVs.cons <| EV.var (ix 3 rfl) <| EVs.nil ⟨_, ih _ L md acc hm1 (Nat.le_trans (Nat.le_of_lt hm2) hR) hacc hm4 hlo, ?_⟩)
        exact SVL.call (a := a) (ix 1 rfl) kk (hi := (by intro env h g; cases env; subst h; rfl)) (h := EVs.cons <| EV.var (ix 5 rfl) <| EVs.cons <| EV.var (ix 3 rfl) <| EVs.cons <| EV.var (ix 2 rfl) <| EVs.nil ⟨_, ih _ md R _ hm2 (acl.symm ▸ hR) (acl.symm ▸ hacc) hm3 hup, SVL.nil (setSeg_parts hm1 hm2 hR)⟩)
  have t : ∀ pos, TV w (n + kM b av + 1) env.scope [("len", .bi "len")] [("a", .v (some (.int av))), ("n", .v (some (.int b))), ("a_digits", .v (some (.fn D₀))), ("inner", .v (some (.fn a)))] (.Name ("a" : Str) pos) (kEqB (decide ((av : Int) ≠ 0))) := fun _ => TV.val <| EV.var (.head _) <| tru_i rfl
  refine wpAny_execs_cons (wpAny_mono (Q := FillP w env [("len", .bi "len")] W D₀ (fun _ => 0) [("a", .v (some (.int av))), ("n", .v (some (.int b))), ("a_digits", .v (some (.fn D₀))), ("inner", .v (some (.fn a)))] (dnats (digs b (kM b av) av)) F3 s3) (wpAny_If (wpAny_mono ((t _).run (A.deeper env) env _ s' rfl o.bud o.frm C4.fo.rd0) (fun c s5 p => ?_) fun _ _ x => x)) (fun fl s6 p => ?_) fun _ _ x => x)
  rotate_left
  · obtain ⟨C6, z6⟩ := p
    exact exec_last (C6.ret (y3.trans z6) (ix 2 rfl) hD (by decide +kernel))
  obtain ⟨G5, rfl, x5⟩ := p
  obtain ⟨I5, y5⟩ := I.ext x5
  obtain ⟨C5, z5⟩ := C4.stp I5.R y5
  have zz := z4.trans z5
  by_cases hav : av = 0
  · subst hav
    rw [kM_zero hb1] at C5 ⊢
    exact wpAny_execs_nil ⟨C5, zz⟩
  · refine yes (fun h => hav (Int.ofNat_inj.mp h)) ?_
    have hlt : av < 2 ^ (b * kM b av) := kM_lt hb1
    have hkp : 0 < kM b av := Nat.pos_of_ne_zero fun h => hav (by rw [h] at hlt; exact Nat.lt_one_iff.mp hlt)
    refine exec_last (wpAny_mono (I5.fill C5 (acc' := dnats (digs b (kM b av) av)) (n := n + kM b av + 1) (args := [.int av, .int (0 : Nat), .int (kM b av : Nat)]) (av := av) rfl o.bud o.frm k1 (by decide +kernel) k3 (.head _) ?_ ?_ (fun _ => rfl) ?_ rfl rfl ?_) (fun _ _ q => q.back zz) fun _ _ x => x)
    · refine EVs.cons <| EV.var (.head _) <| EVs.cons <| EV.cInt <| EVs.cons <| EV.call <| EV.con (.head _) ⟨KeepOk.bi, EVs.cons <| EV.var (ix 1 rfl) <| EVs.nil <| len_l (hlk.symm ▸ Nat.le_trans hk (sz 100)) <| EVs.nil ?_⟩
      rw [hlk]; rfl
    · intro d hd
      rcases List.mem_cons.mp hd with rfl | hd
      · rfl
      rcases List.mem_cons.mp hd with rfl | hd
      · rfl
      · obtain rfl := List.mem_singleton.mp hd; rfl
    · exact (fun (env : Env) (h : env.scope = _) (g : env.globals = 3) => (by cases env; subst h; rfl) : ∀ env : Env, env.scope = _ → env.globals = 3 → interactive env = false) env o.scope C5.fo.st.glob
    · have hl := List.length_replicate (n := kM b av) (a := (0 : Int))
      have C := key (kM b av + 1) av 0 (kM b av) (List.replicate (kM b av) 0) hkp (Nat.le_of_eq hl.symm) (hl.symm ▸ hk) (Nat.le_succ _) hlt
      rw [Nat.sub_zero, setSeg_full ((digs_len ..).trans hl.symm)] at C
      exact C
end
end Mine
end

noncomputable section
--# Wb15
namespace Mine
open PySem PySem.W PyProof.Rows PySem.Calls

theorem dval_digs (n : Nat) : ∀ (k a : Nat), a < 2 ^ (n * k) → dval n (digs n k a) = a
  | 0, a, h => by simp at h; subst h; rfl
  | k + 1, a, h => by
    rw [digs, dval, dval_digs n k (a / 2 ^ n)]
    · rw [Nat.add_comm]; exact Nat.div_add_mod a (2 ^ n)
    · refine Nat.div_lt_of_lt_mul ?_
      rw [Nat.mul_succ, Nat.pow_add, Nat.mul_comm] at h; exact h
theorem digs_lt (n : Nat) : ∀ (k a : Nat), ∀ x ∈ digs n k a, x < 2 ^ n
  | 0, _, x, h => nomatch h
  | k + 1, a, x, h => by
    rcases List.mem_cons.mp h with rfl | h
    · exact Nat.mod_lt _ (Nat.two_pow_pos n)
    · exact digs_lt n k _ x h
theorem dnats_rev (l : List Nat) : (dints (dnats l)).reverse = dints (dnats l.reverse) := List.map_reverse.symm.trans (congrArg dints List.map_reverse.symm)

section
variable {w : Wd} {n : Nat} {sc : Scope} {κ : Env2} {ρ : Rho}
theorem bits_pos {b : Nat} (h : 0 < b) : 1 ≤ bits (b : Int) ∧ b < 2 ^ bits (b : Int) ∧ 2 ^ bits (b : Int) ≤ 2 * b := by
  have h1 : b < 2 ^ bits (b : Int) := by
    have := intBits_le_iff.mp (Nat.le_refl (bits (b : Int))); simpa using this
  have h0 : 1 ≤ bits (b : Int) := by
    rcases Nat.eq_zero_or_pos (bits (b : Int)) with q | q
    · rw [q] at h1; omega
    · exact q
  refine ⟨h0, h1, ?_⟩
  have h2 : ¬ bits (b : Int) ≤ bits (b : Int) - 1 := by omega
  have h3 : ¬ b < 2 ^ (bits (b : Int) - 1) := fun q => h2 (intBits_le_iff.mpr (by simpa using q))
  obtain ⟨m, hm⟩ : ∃ m, bits (b : Int) = m + 1 := ⟨bits (b : Int) - 1, by omega⟩
  rw [hm] at h3 ⊢
  rw [Nat.pow_succ]
  simp only [Nat.add_sub_cancel] at h3
  omega
theorem pos_lt {r x b M : Nat} (hr : r < b) (hx : x < M) : r * M + x < M * b := by
  rw [Nat.mul_comm M b]
  exact Nat.lt_of_lt_of_le (Nat.add_lt_add_left hx _) (Nat.le_trans (Nat.le_of_eq (Nat.succ_mul r M).symm) (Nat.mul_le_mul_right M hr))
theorem pos_val {m r x b : Nat} {qs hi : List Nat} (hv : dval m qs.reverse * b + r = dval m hi.reverse) : dval m (qs ++ [(r * 2 ^ m + x) / b]).reverse * b + (r * 2 ^ m + x) % b = dval m (hi ++ [x]).reverse := by
  rw [List.reverse_append, List.reverse_append]
  show dval m ((r * 2 ^ m + x) / b :: qs.reverse) * b + _ = dval m (x :: hi.reverse)
  rw [dval, dval, ← hv, Nat.add_mul, Nat.mul_add, ← Nat.mul_assoc, Nat.mul_comm _ b, Nat.mul_comm (2 ^ m) r, Nat.add_right_comm, Nat.div_add_mod, Nat.add_comm (r * 2 ^ m) x, Nat.add_assoc, Nat.add_comm (r * 2 ^ m)]
theorem pos_end {m r a b : Nat} {qs : List Nat} (hb : 0 < b) (hr : r < b) (hv : dval m qs * b + r = a) : dval m qs = a / b ∧ r = a % b := by
  rw [← hv, Nat.mul_comm, Nat.mul_add_div hb, Nat.div_eq_of_lt hr, Nat.mul_add_mod, Nat.mod_eq_of_lt hr]
  exact ⟨rfl, rfl⟩
theorem dints_dnats (l : List Nat) : dints (dnats l) = l.map fun x : Nat => D.int x := List.map_map ..
theorem dints_snoc (l : List Nat) (x : Nat) : dints (dnats l) ++ [D.int x] = dints (dnats (l ++ [x])) := by rw [dints_dnats, dints_dnats, List.map_append]; rfl
noncomputable def posR (a b m : Nat) (ds : List Nat) (r : Nat) (qs : List Nat) (ad qd : Option D) : Rho := [("a", .v (some (.int a))), ("b", .v (some (.int b))), ("n", .v (some (.int m))), ("a_digits", .v (some (.list (dints (dnats ds))))), ("r", .v (some (.int r))), ("q_digits", .ml (dints (dnats qs))), ("a_digit", .v ad), ("q_digit", .v qd), ("q", .v none)]
inductive PosI (a b m : Nat) (ds done rest : List Nat) (ρ : Rho) : Prop
  | mk (r : Nat) (qs : List Nat) (ad qd : Option D) (hl : qs.length = done.length) (hq : ∀ x ∈ qs, x < 2 ^ m) (hr : r < b) (hv : dval m qs.reverse * b + r = dval m done.reverse) (e : ρ = posR a b m ds r qs ad qd)
inductive PosJ (a b m : Nat) (ds : List Nat) (ρ : Rho) : Prop
  | mk (qs : List Nat) (ad qd : Option D) (hl : qs.length = ds.length) (hq : ∀ x ∈ qs, x < 2 ^ m) (hv : dval m qs.reverse = a / b) (e : ρ = posR a b m ds (a % b) qs ad qd)
theorem f_divmod_pos {a b : Nat} (hb : 0 < b) (hbb : bits (b : Int) ≤ 128000) (hk : kM (bits (b : Int)) a ≤ 100) : CallOk w (n + 110) (.fn 56) [.int a, .int b] (kEq (.tup [.int ((a / b : Nat) : Int), .int ((a % b : Nat) : Int)])) := by
  obtain ⟨h1, hlt, hge⟩ := bits_pos hb
  have O : FnOk 56 _ _ ["a", "b"] ["n", "a_digits", "r", "q_digits", "a_digit", "q_digit", "q"] [("_digits2int", .fn 49), ("_div2n1n", .fn 28), ("_int2digits", .fn 42), ("reversed", .ty "reversed")] := ⟨fun P => ⟨_, _, _, rfl⟩, rfl, rfl, rfl, rfl, rfl, rfl, rfl, by intro P; kernel_rfl, all2 (fun a b => rfl), by decide +kernel, by kernel_rfl, (fall ⟨by kernel_rfl, g_digits2int⟩ <| fall ⟨by kernel_rfl, g_div2n1n⟩ <| fall ⟨by kernel_rfl, g_int2digits⟩ <| fall ⟨by kernel_rfl, g_reversed⟩ <| fall_nil)⟩
  refine CallOk.fn O rfl <| SVs.cons <| SV.asg <| EV.meth <| EV.var (ix 1 rfl) ⟨_, meth_bits, KeepOk.bi, EVs.nil <| bits_ok ⟨_, (put 2 rfl), ?_⟩⟩
  generalize hm : bits (b : Int) = m at h1 hlt hge hbb hk
  rw [show Builtin.Int.intBits (b : Int) = m from hm]
  have F1 := f_int2digits (w := w) (n := n + 107 - kM m a) (av := a) (b := m) h1 hbb hk
  rw [show n + 107 - kM m a + kM m a + 2 = n + 109 by omega] at F1
  refine SVs.cons <| SV.asg <| EV.call <| EV.con (ix 2 rfl) ⟨k42, EVs.cons <| EV.var (.head _) <| EVs.cons <| EV.var (ix 2 rfl) <| EVs.nil <| CallOk.to F1 ⟨_, (put 3 rfl), ?_⟩⟩
  have hdl : (digs m (kM m a) a).length ≤ 100 := Nat.le_trans (Nat.le_of_eq (digs_len m (kM m a) a)) hk
  have hdv := dval_digs m (kM m a) a (kM_lt h1)
  have hdlt := digs_lt m (kM m a) a
  generalize digs m (kM m a) a = ds at hdl hdv hdlt ⊢
  refine SVs.cons <| SV.asg <| EV.cInt ⟨_, (put 4 rfl), SVs.cons <| SV.asgN <| EN.disp <| EVs.nil ⟨sz 0, (fun _ h => nomatch h), _, (put 5 rfl), ?_⟩⟩
  have big : ∀ {qs : List Nat}, qs.length ≤ 100 → (dints (dnats qs)).length ≤ sizeLine := fun h => Nat.le_trans (Nat.le_of_eq ((dints_len _).trans (dnats_len _))) (Nat.le_trans h (sz 100))
  refine SVs.join (PosJ a b m ds) ?_ ?_
  · refine SV.forM (inj := fun x : Nat => D.int x) (xs := ds.reverse) (PosI a b m ds) ?_ ?_ ?_
    · refine IV.call <| EV.con (ix 3 rfl) ⟨KeepOk.ty, EVs.cons <| EV.var (ix 3 rfl) <| EVs.nil <| reversed_i ⟨(dnats_rev ds).trans (dints_dnats _), ?_⟩⟩
      exact ⟨0, [], none, none, rfl, (fun _ h => nomatch h), hb, Nat.zero_mul b, rfl⟩
    · rintro hi x lo _ hx ⟨r, qs, ad, qd, hql, hqlt, hr, hv, rfl⟩
      have hcur := pos_lt hr (hdlt x (List.mem_reverse.mp (mem_done hx)))
      have hql2 : qs.length ≤ 100 := by
        have h := congrArg List.length hx
        rw [List.length_reverse, List.length_append] at h
        exact hql ▸ Nat.le_trans (Nat.le_of_lt (Nat.lt_of_lt_of_eq (Nat.lt_add_of_pos_right (Nat.succ_pos _)) h.symm)) hdl
      refine ⟨_, AS.name (put 6 rfl), SVs.cons <| SV.asg2 <| EV.call <| EV.con (ix 1 rfl) ⟨k28, EVs.cons <| EV.bin <| EV.bin <| EV.var (ix 4 rfl) <| EV.var (ix 2 rfl) <| shl_n (Nat.le_trans hbb (by decide)) (bits_mono (bits_nat (Nat.lt_trans hr hlt)) (Nat.le_trans hbb (by decide))) <| EV.var (ix 6 rfl) <| add_i <| EVs.cons <| EV.var (ix 1 rfl) <| EVs.cons <| EV.var (ix 2 rfl) <| EVs.nil <|
        CallOk.to (f_div2 (n := n + 98) 5 (Nat.le_refl 5) (r * 2 ^ m + x) b m hcur hlt hge hbb) ⟨_, _, rfl, _, _, (put 7 rfl), (put 4 rfl), ?_⟩⟩⟩
      refine SVs.cons <| SV.append (hi := (by intro env h g; cases env; subst h; rfl)) (ix 5 rfl) (big hql2) <| EV.var (ix 7 rfl) ⟨rfl, _, (put 5 rfl), SVs.nil ⟨(r * 2 ^ m + x) % b, qs ++ [(r * 2 ^ m + x) / b], some (.int x), some (.int ((r * 2 ^ m + x) / b : Nat)), ?_, ?_, Nat.mod_lt _ hb, pos_val hv, ?_⟩⟩
      · rw [List.length_append, List.length_append, hql]; rfl
      · exact fun y hy => (List.mem_append.mp hy).elim (hqlt y) fun hy => List.mem_singleton.mp hy ▸ Nat.div_lt_of_lt_mul (Nat.mul_comm b _ ▸ hcur)
      · rw [dints_snoc]; rfl
    · rintro _ ⟨r, qs, ad, qd, hql, hqlt, hr, hv, rfl⟩
      rw [List.reverse_reverse, hdv] at hv
      obtain ⟨e1, e2⟩ := pos_end hb hr hv
      exact ⟨qs, ad, qd, hql.trans List.length_reverse, hqlt, e1, congrArg (fun r => posR a b m ds r qs ad qd) e2⟩
  · rintro _ ⟨qs, ad, qd, hql, hqlt, hq, rfl⟩
    have hql2 : qs.length ≤ 100 := Nat.le_trans (Nat.le_of_eq hql) hdl
    refine SVs.cons <| SV.reverse (hi := (by intro env h g; cases env; subst h; rfl)) (ix 5 rfl) (big hql2) (put 5 rfl) ?_
    rw [dnats_rev]
    have F3 := f_digits2int (w := w) (n := n + 107 - qs.reverse.length) (ns := qs.reverse) (b := m) hbb (Nat.le_trans (Nat.le_of_eq List.length_reverse) hql2) (fun x hx => hqlt x (List.mem_reverse.mp hx))
    rw [show n + 107 - qs.reverse.length + qs.reverse.length + 2 = n + 109 by rw [List.length_reverse]; omega, hq] at F3
    refine SVs.freeze (ix 5 rfl) (put 5 rfl) ?_
    exact SVs.cons <| SV.asg <| EV.call <| EV.con (.head _) ⟨k49, EVs.cons <| EV.var (ix 5 rfl) <| EVs.cons <| EV.var (ix 2 rfl) <| EVs.nil <| CallOk.to F3 ⟨_, (put 8 rfl), SVs.cons <| SV.ret <| EV.tup <| EVs.cons <| EV.var (ix 8 rfl) <| EVs.cons <| EV.var (ix 4 rfl) <| EVs.nil ⟨sz 2, rfl⟩⟩⟩

structure DvOk (a b : Int) : Prop where
  b0 : b ≠ 0
  bb : bits b ≤ 128000
  k : kM (bits b) a.natAbs ≤ 100
theorem bits_neg (b : Int) : bits (-b) = bits b := by simp [bits, Builtin.Int.intBits]
theorem f_im0 {a b : Int} (h : DvOk a b) (ha : 0 ≤ a) (hb : 0 < b) : CallOk w (n + 111) (.fn 63) [.int a, .int b] (kEq (.tup [.int (a.fdiv b), .int (a.fmod b)])) := by
  obtain ⟨a, rfl⟩ := Int.eq_ofNat_of_zero_le ha
  obtain ⟨b, rfl⟩ := Int.eq_ofNat_of_zero_le (Int.le_of_lt hb)
  have hk : kM (bits (b : Int)) a ≤ 100 := by simpa using h.k
  have O : FnOk 63 _ _ ["a", "b"] ["q", "r"] [("_divmod_pos", .fn 56), ("int_divmod", .fn 63)] := ⟨fun P => ⟨_, _, _, rfl⟩, rfl, rfl, rfl, rfl, rfl, rfl, rfl, by intro P; kernel_rfl, all2 (fun a b => rfl), by decide +kernel, by kernel_rfl, (fall ⟨by kernel_rfl, g_divmod_pos⟩ <| fall ⟨by kernel_rfl, g_int_divmod⟩ <| fall_nil)⟩
  refine CallOk.fn O rfl (SVs.cons <| SV.if <| TV.cmp <| EV.var (ix 1 rfl) <| EV.cInt <| eq_i <| tru_b ?_)
  refine no (by omega) ?_
  refine SVs.cons <| SV.if <| TV.cmp <| EV.var (ix 1 rfl) <| EV.cInt <| lt_i <| tru_b ?_
  first | refine noB rfl ?_ | refine no (by simp) ?_
  refine SVs.cons <| SV.if <| TV.cmp <| EV.var (.head _) <| EV.cInt <| lt_i <| tru_b ?_
  first | refine noB rfl ?_ | refine no (by simp) ?_
  refine SVs.cons <| SV.ret <| EV.call <| EV.con (.head _) ⟨k56, EVs.cons <| EV.var (.head _) <| EVs.cons <| EV.var (ix 1 rfl) <| EVs.nil <| CallOk.to (f_divmod_pos (by omega) h.bb hk) ?_⟩
  rw [(divmod_nat a b).1, (divmod_nat a b).2]; rfl
theorem f_im1 {a b : Int} (h : DvOk a b) (hb : 0 < b) : CallOk w (n + 112) (.fn 63) [.int a, .int b] (kEq (.tup [.int (a.fdiv b), .int (a.fmod b)])) := by
  by_cases ha : 0 ≤ a
  · exact f_im0 (n := n + 1) h ha hb
  have O : FnOk 63 _ _ ["a", "b"] ["q", "r"] [("_divmod_pos", .fn 56), ("int_divmod", .fn 63)] := ⟨fun P => ⟨_, _, _, rfl⟩, rfl, rfl, rfl, rfl, rfl, rfl, rfl, by intro P; kernel_rfl, all2 (fun a b => rfl), by decide +kernel, by kernel_rfl, (fall ⟨by kernel_rfl, g_divmod_pos⟩ <| fall ⟨by kernel_rfl, g_int_divmod⟩ <| fall_nil)⟩
  refine CallOk.fn O rfl (SVs.cons <| SV.if <| TV.cmp <| EV.var (ix 1 rfl) <| EV.cInt <| eq_i <| tru_b ?_)
  refine no (by omega) ?_
  refine SVs.cons <| SV.if <| TV.cmp <| EV.var (ix 1 rfl) <| EV.cInt <| lt_i <| tru_b ?_
  refine no (by omega) ?_
  refine SVs.cons <| SV.if <| TV.cmp <| EV.var (.head _) <| EV.cInt <| lt_i <| tru_b ?_
  refine yes (by omega) ?_
  have h' : DvOk (Builtin.bitNot a) b := ⟨h.b0, h.bb, by
    refine Nat.le_trans ?_ h.k
    unfold kM
    refine Nat.div_le_div_right ?_
    have : bits ((Builtin.bitNot a).natAbs : Int) ≤ bits (a.natAbs : Int) := by
      refine intBits_le_iff.mpr ?_
      have := intBits_le_iff.mp (Nat.le_refl (bits (a.natAbs : Int)))
      have e : (Builtin.bitNot a) = -a - 1 := rfl
      rw [e]
      simp at this ⊢
      omega
    omega⟩
  refine SVs.cons <| SV.asg2 <| EV.call <| EV.con (ix 1 rfl) ⟨k63, EVs.cons <| EV.una <| EV.var (.head _) <| inv_i <| EVs.cons <| EV.var (ix 1 rfl) <| EVs.nil <| CallOk.to (f_im0 h' (by show 0 ≤ -a - 1; omega) hb) ?_⟩
  refine ⟨_, _, rfl, _, _, (put 2 rfl), (put 3 rfl), ?_⟩
  refine SVs.cons <| SV.ret <| EV.tup <| EVs.cons <| EV.una <| EV.var (ix 2 rfl) <| inv_i <| EVs.cons <| EV.bin <| EV.var (ix 1 rfl) <| EV.una <| EV.var (ix 3 rfl) <| inv_i <| add_i <| EVs.nil ⟨sz 2, ?_⟩
  show D.tup [.int (-((-a - 1).fdiv b) - 1), .int (b + (-((-a - 1).fmod b) - 1))] = _
  have e1 : a = b * (-((-a - 1).fdiv b) - 1) + (b + (-((-a - 1).fmod b) - 1)) := by
    have := Int.mul_fdiv_add_fmod (-a - 1) b
    rw [Int.mul_sub, Int.mul_neg]
    omega
  have r1 := Int.fmod_nonneg_of_pos (-a - 1) hb
  have r2 := Int.fmod_lt_of_pos (-a - 1) hb
  generalize (-a - 1).fdiv b = q at *
  generalize (-a - 1).fmod b = r at *
  have hq : a.fdiv b = -q - 1 := by
    rw [e1, Int.fdiv_eq_ediv_of_nonneg _ (Int.le_of_lt hb), Int.add_comm, Int.add_mul_ediv_left _ _ (by omega), Int.ediv_eq_zero_of_lt (by omega) (by omega)]; omega
  have hr : a.fmod b = b + (-r - 1) := by
    have := Int.mul_fdiv_add_fmod a b
    rw [hq] at this
    omega
  rw [hq, hr]
theorem f_int_divmod {a b : Int} (h : DvOk a b) : CallOk w (n + 113) (.fn 63) [.int a, .int b] (kEq (.tup [.int (a.fdiv b), .int (a.fmod b)])) := by
  by_cases hb : 0 < b
  · exact f_im1 (n := n + 1) h hb
  have hb0 := h.b0
  have O : FnOk 63 _ _ ["a", "b"] ["q", "r"] [("_divmod_pos", .fn 56), ("int_divmod", .fn 63)] := ⟨fun P => ⟨_, _, _, rfl⟩, rfl, rfl, rfl, rfl, rfl, rfl, rfl, by intro P; kernel_rfl, all2 (fun a b => rfl), by decide +kernel, by kernel_rfl, (fall ⟨by kernel_rfl, g_divmod_pos⟩ <| fall ⟨by kernel_rfl, g_int_divmod⟩ <| fall_nil)⟩
  refine CallOk.fn O rfl (SVs.cons <| SV.if <| TV.cmp <| EV.var (ix 1 rfl) <| EV.cInt <| eq_i <| tru_b ?_)
  refine no (by omega) ?_
  refine SVs.cons <| SV.if <| TV.cmp <| EV.var (ix 1 rfl) <| EV.cInt <| lt_i <| tru_b ?_
  refine yes (by omega) ?_
  have h' : DvOk (-a) (-b) := ⟨by omega, by rw [bits_neg]; exact h.bb, by rw [bits_neg, Int.natAbs_neg]; exact h.k⟩
  refine SVs.cons <| SV.asg2 <| EV.call <| EV.con (ix 1 rfl) ⟨k63, EVs.cons <| EV.una <| EV.var (.head _) <| neg_i <| EVs.cons <| EV.una <| EV.var (ix 1 rfl) <| neg_i <| EVs.nil <| CallOk.to (f_im1 h' (by omega)) ?_⟩
  refine ⟨_, _, rfl, _, _, (put 2 rfl), (put 3 rfl), ?_⟩
  refine SVs.cons <| SV.ret <| EV.tup <| EVs.cons <| EV.var (ix 2 rfl) <| EVs.cons <| EV.una <| EV.var (ix 3 rfl) <| neg_i <| EVs.nil ⟨sz 2, ?_⟩
  have e1 := Int.mul_fdiv_add_fmod (-a) (-b)
  have r1 := Int.fmod_nonneg_of_pos (-a) (show 0 < -b by omega)
  have r2 := Int.fmod_lt_of_pos (-a) (show 0 < -b by omega)
  have hq : a.fdiv b = (-a).fdiv (-b) := by
    rw [Int.neg_fdiv_neg]
  have hr : a.fmod b = -((-a).fmod (-b)) := by
    have := Int.mul_fdiv_add_fmod a b
    rw [hq] at this
    rw [Int.neg_mul] at e1
    omega
  rw [hq, hr]; rfl
end
end Mine
end

noncomputable section
--# Mt4
namespace Mine
open PySem PySem.W PyProof.Rows PySem.Calls

noncomputable def lineOf (row : List Int) (tl : Nat) (rest : List Nat) : List Nat := (row.flatMap fun r => List.replicate r.toNat 32 ++ [9]) ++ (List.replicate tl 32 ++ rest)
noncomputable def Row (row : List Int) : Prop := ∀ r ∈ row, 0 ≤ r ∧ r ≤ 3
theorem wsGo_sp (k : Nat) : ∀ (l : List Nat) (cnt : List Int) (b n nt : Int), wsGo (List.replicate k 32 ++ l) cnt b n nt = wsGo l cnt (b + k) (n + k) nt := by
  induction k with
  | zero => intro l cnt b n nt; rw [show ((0 : Nat) : Int) = 0 from rfl, Int.add_zero, Int.add_zero]; rfl
  | succ k ih =>
    intro l cnt b n nt
    rw [List.replicate_succ, List.cons_append, wsGo, if_pos rfl, ih, Int.natCast_succ, Int.add_assoc, Int.add_assoc, Int.add_comm 1]
/-- a weight summed over a row -/
noncomputable def sumW (f : Int → Int) : List Int → Int
  | [] => 0
  | r :: rs => f r + sumW f rs
/-- signs that a row covers -/
noncomputable def rowN (row : List Int) : Int := sumW (fun r => r + 1) row
theorem rowN_cons (r : Int) (row : List Int) : rowN (r :: row) = r + 1 + rowN row := rfl
theorem wsGo_row : ∀ (row : List Int), Row row → ∀ (l : List Nat) (cnt : List Int) (n nt : Int), wsGo ((row.flatMap fun r => List.replicate r.toNat 32 ++ [9]) ++ l) cnt 0 n nt = wsGo l (row.foldl bump cnt) 0 (n + rowN row) (nt + row.length)
  | [], _, l, cnt, n, nt => by rw [rowN, sumW, Int.add_zero]; exact congrArg (wsGo l cnt 0 n) (Int.add_zero nt).symm
  | r :: row, hr, l, cnt, n, nt => by
    rw [List.flatMap_cons, List.append_assoc, List.append_assoc, wsGo_sp, List.singleton_append, wsGo, if_neg (by decide), if_pos rfl, wsGo_row row fun x hx => hr x (.tail _ hx), Int.zero_add, Int.toNat_of_nonneg (hr r (.head _)).1, List.foldl_cons, rowN_cons, List.length_cons, Int.add_assoc n, Int.add_assoc n, Int.natCast_succ, Int.add_comm (row.length : Int), Int.add_assoc nt]
theorem wsGo_line {row : List Int} (hr : Row row) (tl : Nat) (c : Nat) (rest : List Nat) (h1 : c ≠ 32) (h2 : c ≠ 9) : wsGo (lineOf row tl (c :: rest)) [] 0 0 0 = (row.foldl bump [], (tl : Int), rowN row + tl, (row.length : Int)) := by
  unfold lineOf
  rw [wsGo_row row hr, wsGo_sp, wsGo, if_neg h1, if_neg h2, Int.zero_add, Int.zero_add, Int.zero_add]
/-- the counts, cut behind the last that is not nought -/
noncomputable def shape (a b c d : Int) : List Int := if 0 < d then [a, b, c, d] else if 0 < c then [a, b, c] else if 0 < b then [a, b] else if 0 < a then [a] else []
noncomputable def cI (row : List Int) (i : Int) : Int := (row.count i : Int)
theorem cI_hit (row : List Int) (i : Int) : cI (i :: row) i = cI row i + 1 := congrArg Int.ofNat List.count_cons_self
theorem cI_miss (row : List Int) {r i : Int} (h : r ≠ i) : cI (r :: row) i = cI row i := congrArg Int.ofNat (List.count_cons_of_ne h)
theorem cI_nn (row : List Int) (i : Int) : 0 ≤ cI row i := Int.natCast_nonneg _
theorem row_4 {r : Int} (h : 0 ≤ r ∧ r ≤ 3) : r = 0 ∨ r = 1 ∨ r = 2 ∨ r = 3 := by omega
/-- a row's counts, of one more -/
theorem cI_0 (row : List Int) : cI (0 :: row) 0 = cI row 0 + 1 ∧ cI (0 :: row) 1 = cI row 1 ∧ cI (0 :: row) 2 = cI row 2 ∧ cI (0 :: row) 3 = cI row 3 := ⟨cI_hit .., cI_miss row (by decide), cI_miss row (by decide), cI_miss row (by decide)⟩
theorem cI_1 (row : List Int) : cI (1 :: row) 0 = cI row 0 ∧ cI (1 :: row) 1 = cI row 1 + 1 ∧ cI (1 :: row) 2 = cI row 2 ∧ cI (1 :: row) 3 = cI row 3 := ⟨cI_miss row (by decide), cI_hit .., cI_miss row (by decide), cI_miss row (by decide)⟩
theorem cI_2 (row : List Int) : cI (2 :: row) 0 = cI row 0 ∧ cI (2 :: row) 1 = cI row 1 ∧ cI (2 :: row) 2 = cI row 2 + 1 ∧ cI (2 :: row) 3 = cI row 3 := ⟨cI_miss row (by decide), cI_miss row (by decide), cI_hit .., cI_miss row (by decide)⟩
theorem cI_3 (row : List Int) : cI (3 :: row) 0 = cI row 0 ∧ cI (3 :: row) 1 = cI row 1 ∧ cI (3 :: row) 2 = cI row 2 ∧ cI (3 :: row) 3 = cI row 3 + 1 := ⟨cI_miss row (by decide), cI_miss row (by decide), cI_miss row (by decide), cI_hit ..⟩
/-- the shape's five kinds -/
theorem shapeE {P : Int → Int → Int → Int → List Int → Prop} (h4 : ∀ a b c d, 0 ≤ a → 0 ≤ b → 0 ≤ c → 0 < d → P a b c d [a, b, c, d]) (h3 : ∀ a b c, 0 ≤ a → 0 ≤ b → 0 < c → P a b c 0 [a, b, c]) (h2 : ∀ a b, 0 ≤ a → 0 < b → P a b 0 0 [a, b]) (h1 : ∀ a, 0 < a → P a 0 0 0 [a]) (h0 : P 0 0 0 0 []) {a b c d : Int} (ha : 0 ≤ a) (hb : 0 ≤ b) (hc : 0 ≤ c) (hd : 0 ≤ d) : P a b c d (shape a b c d) := by
  unfold shape
  rcases Int.lt_or_eq_of_le hd with k | rfl
  · rw [if_pos k]; exact h4 a b c d ha hb hc k
  rw [if_neg (Int.lt_irrefl 0)]
  rcases Int.lt_or_eq_of_le hc with k | rfl
  · rw [if_pos k]; exact h3 a b c ha hb k
  rw [if_neg (Int.lt_irrefl 0)]
  rcases Int.lt_or_eq_of_le hb with k | rfl
  · rw [if_pos k]; exact h2 a b ha k
  rw [if_neg (Int.lt_irrefl 0)]
  rcases Int.lt_or_eq_of_le ha with k | rfl
  · rw [if_pos k]; exact h1 a k
  rw [if_neg (Int.lt_irrefl 0)]; exact h0
theorem shape4 {a b c d : Int} (h : 0 < d) : [a, b, c, d] = shape a b c d := (if_pos h).symm
theorem shape3 {a b c : Int} (h : 0 < c) : [a, b, c] = shape a b c 0 := (if_pos h).symm
theorem shape2 {a b : Int} (h : 0 < b) : [a, b] = shape a b 0 0 := (if_pos h).symm
theorem shape1 {a : Int} (h : 0 < a) : [a] = shape a 0 0 0 := (if_pos h).symm
theorem up {x : Int} (h : 0 < x) : 0 < x + 1 := Int.lt_trans h (Int.lt_succ x)
section
variable {a b c d : Int} (ha : 0 ≤ a) (hb : 0 ≤ b) (hc : 0 ≤ c) (hd : 0 ≤ d)
include ha hb hc hd
theorem bump_0 : bump (shape a b c d) 0 = shape (a + 1) b c d := shapeE (P := fun a b c d l => bump l 0 = shape (a + 1) b c d) (fun _ _ _ _ _ _ _ h => shape4 h) (fun _ _ _ _ _ h => shape3 h) (fun _ _ _ h => shape2 h) (fun _ h => shape1 (up h)) (shape1 Int.zero_lt_one) ha hb hc hd
theorem bump_1 : bump (shape a b c d) 1 = shape a (b + 1) c d := shapeE (P := fun a b c d l => bump l 1 = shape a (b + 1) c d) (fun _ _ _ _ _ _ _ h => shape4 h) (fun _ _ _ _ _ h => shape3 h) (fun _ _ _ h => shape2 (up h)) (fun _ h => shape2 Int.zero_lt_one) (shape2 Int.zero_lt_one) ha hb hc hd
theorem bump_2 : bump (shape a b c d) 2 = shape a b (c + 1) d := shapeE (P := fun a b c d l => bump l 2 = shape a b (c + 1) d) (fun _ _ _ _ _ _ _ h => shape4 h) (fun _ _ _ _ _ h => shape3 (up h)) (fun _ _ _ h => shape3 Int.zero_lt_one) (fun _ h => shape3 Int.zero_lt_one) (shape3 Int.zero_lt_one) ha hb hc hd
theorem bump_3 : bump (shape a b c d) 3 = shape a b c (d + 1) := shapeE (P := fun a b c d l => bump l 3 = shape a b c (d + 1)) (fun _ _ _ _ _ _ _ h => shape4 (up h)) (fun _ _ _ _ _ h => shape4 Int.zero_lt_one) (fun _ _ _ h => shape4 Int.zero_lt_one) (fun _ h => shape4 Int.zero_lt_one) (shape4 Int.zero_lt_one) ha hb hc hd
end
theorem nn1 {x : Int} (h : 0 ≤ x) : 0 ≤ x + 1 := Int.le_trans h (Int.le_of_lt (Int.lt_succ x))
theorem sw (a x : Int) : a + 1 + x = a + (x + 1) := (Int.add_assoc a 1 x).trans (congrArg (a + ·) (Int.add_comm 1 x))
theorem fold_shapeG : ∀ (row : List Int), Row row → ∀ a b c d : Int, 0 ≤ a → 0 ≤ b → 0 ≤ c → 0 ≤ d → row.foldl bump (shape a b c d) = shape (a + cI row 0) (b + cI row 1) (c + cI row 2) (d + cI row 3)
  | [], _, a, b, c, d, _, _, _, _ => by
    show shape a b c d = shape (a + 0) (b + 0) (c + 0) (d + 0)
    rw [Int.add_zero, Int.add_zero, Int.add_zero, Int.add_zero]
  | r :: row, h, a, b, c, d, ha, hb, hc, hd => by
    have hh := fold_shapeG row fun x hx => h x (.tail _ hx)
    rw [List.foldl_cons]
    rcases row_4 (h r (.head _)) with rfl | rfl | rfl | rfl
    · obtain ⟨e0, e1, e2, e3⟩ := cI_0 row
      rw [bump_0 ha hb hc hd, hh _ _ _ _ (nn1 ha) hb hc hd, e0, e1, e2, e3, sw]
    · obtain ⟨e0, e1, e2, e3⟩ := cI_1 row
      rw [bump_1 ha hb hc hd, hh _ _ _ _ ha (nn1 hb) hc hd, e0, e1, e2, e3, sw]
    · obtain ⟨e0, e1, e2, e3⟩ := cI_2 row
      rw [bump_2 ha hb hc hd, hh _ _ _ _ ha hb (nn1 hc) hd, e0, e1, e2, e3, sw]
    · obtain ⟨e0, e1, e2, e3⟩ := cI_3 row
      rw [bump_3 ha hb hc hd, hh _ _ _ _ ha hb hc (nn1 hd), e0, e1, e2, e3, sw]
theorem fold_shape (row : List Int) (h : Row row) : row.foldl bump [] = shape (cI row 0) (cI row 1) (cI row 2) (cI row 3) := by
  have e := fold_shapeG row h 0 0 0 0 (Int.le_refl 0) (Int.le_refl 0) (Int.le_refl 0) (Int.le_refl 0)
  rw [Int.zero_add, Int.zero_add, Int.zero_add, Int.zero_add] at e
  exact e
/-- a sum over a row, by its counts -/
theorem sumW_eq (f : Int → Int) : ∀ (row : List Int), Row row → sumW f row = f 0 * cI row 0 + f 1 * cI row 1 + f 2 * cI row 2 + f 3 * cI row 3
  | [], _ => by
    show 0 = f 0 * 0 + f 1 * 0 + f 2 * 0 + f 3 * 0
    rw [Int.mul_zero, Int.mul_zero, Int.mul_zero, Int.mul_zero]; rfl
  | r :: row, h => by
    rw [sumW, sumW_eq f row fun x hx => h x (.tail _ hx)]
    rcases row_4 (h r (.head _)) with rfl | rfl | rfl | rfl
    · obtain ⟨e0, e1, e2, e3⟩ := cI_0 row
      rw [e0, e1, e2, e3, Int.mul_add, Int.mul_one]; ac_rfl
    · obtain ⟨e0, e1, e2, e3⟩ := cI_1 row
      rw [e0, e1, e2, e3, Int.mul_add, Int.mul_one]; ac_rfl
    · obtain ⟨e0, e1, e2, e3⟩ := cI_2 row
      rw [e0, e1, e2, e3, Int.mul_add, Int.mul_one]; ac_rfl
    · obtain ⟨e0, e1, e2, e3⟩ := cI_3 row
      rw [e0, e1, e2, e3, Int.mul_add, Int.mul_one]; ac_rfl
/-- the columns that a row leads to, less what its tabs are worth -/
noncomputable def lev (row : List Int) (tl : Int) (ts : Nat) : Int :=
  tl + ts * (cI row 0 + cI row 1 + cI row 2 + cI row 3) + (if ts = 1 then cI row 1 + 2 * cI row 2 + 3 * cI row 3 else if ts = 2 then 2 * (cI row 2 + cI row 3) else if ts = 3 then 3 * cI row 3 else 0)
theorem sumW_one : ∀ row : List Int, sumW (fun _ => 1) row = row.length
  | [] => rfl
  | r :: row => by rw [sumW, sumW_one row, List.length_cons, Int.natCast_succ, Int.add_comm]
theorem row_len (row : List Int) (h : Row row) : (row.length : Int) = cI row 0 + cI row 1 + cI row 2 + cI row 3 := by
  rw [← sumW_one, sumW_eq _ row h, Int.one_mul, Int.one_mul, Int.one_mul, Int.one_mul]
theorem rowN_lev (row : List Int) (h : Row row) : rowN row = cI row 0 + 2 * cI row 1 + 3 * cI row 2 + 4 * cI row 3 := by
  rw [rowN, sumW_eq _ row h, show (0 : Int) + 1 = 1 from rfl, Int.one_mul]; rfl
/-- what a run is worth in columns -/
abbrev wT (ts r : Int) : Int := ts * (r / ts + 1)
theorem colGo_w {ts : Int} (h : 0 < ts) : ∀ (row : List Int) (m : Int), colGo ts row (ts * m) = ts * m + sumW (wT ts) row
  | [], m => (Int.add_zero _).symm
  | r :: row, m => by
    have e : ((ts * m + r).fdiv ts * ts + ts) = ts * (m + (r / ts + 1)) := by
      rw [Int.fdiv_eq_ediv_of_nonneg _ (Int.le_of_lt h), Int.add_comm (ts * m), Int.add_mul_ediv_left _ _ (Int.ne_of_gt h), Int.mul_comm, Int.add_comm (r / ts) m, ← Int.add_assoc, Int.mul_add ts _ 1, Int.mul_one]
    rw [colGo, e, colGo_w h row, sumW, Int.mul_add, Int.add_assoc]
theorem lev_w {row : List Int} (hr : Row row) {ts : Nat} (h1 : 1 ≤ ts) (h4 : ts ≤ 4) : sumW (wT ts) row = lev row 0 ts := by
  rw [sumW_eq _ row hr]
  unfold lev
  generalize cI row 0 = a
  generalize cI row 1 = b
  generalize cI row 2 = c
  generalize cI row 3 = d
  match ts, h1, h4 with
  | 1, _, _ => show (1 * a + 2 * b + 3 * c + 4 * d : Int) = 0 + 1 * (a + b + c + d) + (b + 2 * c + 3 * d); omega
  | 2, _, _ => show (2 * a + 2 * b + 4 * c + 4 * d : Int) = 0 + 2 * (a + b + c + d) + 2 * (c + d); omega
  | 3, _, _ => show (3 * a + 3 * b + 3 * c + 6 * d : Int) = 0 + 3 * (a + b + c + d) + 3 * d; omega
  | 4, _, _ => show (4 * a + 4 * b + 4 * c + 4 * d : Int) = 0 + 4 * (a + b + c + d) + 0; omega
theorem lev_tl (row : List Int) (tl : Int) (ts : Nat) : lev row 0 ts + tl = lev row tl ts := by
  unfold lev
  rw [Int.zero_add, Int.add_comm, ← Int.add_assoc]
theorem colM_lev {row : List Int} (hr : Row row) (tl : Int) {ts : Nat} (h1 : 1 ≤ ts) (h4 : ts ≤ 4) : colM row tl ts = lev row tl ts := by
  have h := colGo_w (ts := (ts : Int)) (Int.ofNat_lt.mpr h1) row 0
  rw [Int.mul_zero, Int.zero_add, lev_w hr h1 h4] at h
  rw [colM, h, lev_tl]
end Mine
end

noncomputable section
--# Mt5
namespace Mine
open PySem PySem.W PyProof.Rows PySem.Calls

/-- what is behind a line's white is no white -/
structure Beh (rest : List Nat) : Prop where
  c : ∃ c r, rest = c :: r ∧ c ≠ 32 ∧ c ≠ 9
noncomputable def ldM (row : List Int) (tl : Nat) (rest : List Nat) : Ws := wsOf (lineOf row tl rest)
section
variable {row row' : List Int} {tl tl' : Nat} {rest rest' : List Nat}
theorem ld_eq (hr : Row row) (hb : Beh rest) : (ldM row tl rest).cnt = shape (cI row 0) (cI row 1) (cI row 2) (cI row 3) ∧ (ldM row tl rest).tl = tl ∧ (ldM row tl rest).n = lev row tl 1 ∧ (ldM row tl rest).nt = row.length := by
  obtain ⟨c, r, rfl, h1, h2⟩ := hb.c
  have h := wsGo_line hr tl c r h1 h2
  unfold ldM wsOf
  simp only [h]
  refine ⟨fold_shape row hr, trivial, ?_, trivial⟩
  rw [rowN_lev row hr, ← lev_tl]
  unfold lev
  rw [if_pos rfl]
  generalize cI row 0 = a
  generalize cI row 1 = b
  generalize cI row 2 = c
  generalize cI row 3 = d
  omega
theorem il_shape {a b c d : Int} (ha : 0 ≤ a) (hb : 0 ≤ b) (hc : 0 ≤ c) (hd : 0 ≤ d) :
    ilGo 1 1 ((shape a b c d).drop 1) 0 = b + 2 * c + 3 * d ∧ ilGo 2 2 ((shape a b c d).drop 2) 0 = c + d ∧ ilGo 3 3 ((shape a b c d).drop 3) 0 = d ∧ ilGo 4 4 ((shape a b c d).drop 4) 0 = 0 :=
  shapeE (P := fun a b c d l => ilGo 1 1 (l.drop 1) 0 = b + 2 * c + 3 * d ∧ ilGo 2 2 (l.drop 2) 0 = c + d ∧ ilGo 3 3 (l.drop 3) 0 = d ∧ ilGo 4 4 (l.drop 4) 0 = 0)
    (fun a b c d _ _ _ _ => ⟨show 0 + 1 * b + 2 * c + 3 * d = _ by rw [Int.zero_add, Int.one_mul], show 0 + 1 * c + 1 * d = _ by rw [Int.zero_add, Int.one_mul, Int.one_mul], show 0 + 1 * d = d by rw [Int.zero_add, Int.one_mul], rfl⟩)
    (fun a b c _ _ _ => ⟨show 0 + 1 * b + 2 * c = b + 2 * c + 0 by rw [Int.zero_add, Int.one_mul, Int.add_zero], show 0 + 1 * c = c + 0 by rw [Int.zero_add, Int.one_mul, Int.add_zero], rfl, rfl⟩)
    (fun a b _ _ => ⟨show 0 + 1 * b = b + 0 + 0 by rw [Int.zero_add, Int.one_mul, Int.add_zero, Int.add_zero], rfl, rfl, rfl⟩) (fun _ _ => ⟨rfl, rfl, rfl, rfl⟩) ⟨rfl, rfl, rfl, rfl⟩ ha hb hc hd
theorem ind_lev (hr : Row row) (hb : Beh rest) {ts : Nat} (h1 : 1 ≤ ts) (h4 : ts ≤ 4) : indM (ldM row tl rest) ts = lev row tl ts := by
  obtain ⟨e1, e2, e3, e4⟩ := ld_eq (tl := tl) hr hb
  obtain ⟨i1, i2, i3, i4⟩ := il_shape (cI_nn row 0) (cI_nn row 1) (cI_nn row 2) (cI_nn row 3)
  have hl := row_len row hr
  unfold indM
  rw [e1, e2, e4, hl, Int.mul_add, Int.add_comm (ts * _ : Int), ← Int.add_assoc]
  unfold lev
  match ts, h1, h4 with
  | 1, _, _ => rw [i1]; exact congrArg (HAdd.hAdd _) (Int.one_mul _)
  | 2, _, _ => rw [i2]; rfl
  | 3, _, _ => rw [i3]; rfl
  | 4, _, _ => rw [i4]; rfl
theorem shape_len {a b c d : Int} (ha : 0 ≤ a) (hb : 0 ≤ b) (hc : 0 ≤ c) (hd : 0 ≤ d) : (shape a b c d).length ≤ 4 ∧ ((shape a b c d).length ≤ 3 → d = 0) ∧ ((shape a b c d).length ≤ 2 → c = 0) ∧ ((shape a b c d).length ≤ 1 → b = 0) :=
  have n {p : Prop} {k : Nat} (h : ¬ 4 ≤ k) : 4 ≤ k → p := fun q => absurd q h
  shapeE (P := fun a b c d l => l.length ≤ 4 ∧ (l.length ≤ 3 → d = 0) ∧ (l.length ≤ 2 → c = 0) ∧ (l.length ≤ 1 → b = 0))
    (fun a b c d _ _ _ _ => ⟨Nat.le_refl 4, n (by decide), n (by decide), n (by decide)⟩)
    (fun a b c _ _ _ => ⟨(by decide : 3 ≤ 4), fun _ => rfl, fun h => absurd h (by decide : ¬ 3 ≤ 2), fun h => absurd h (by decide : ¬ 3 ≤ 1)⟩)
    (fun a b _ _ => ⟨(by decide : 2 ≤ 4), fun _ => rfl, fun _ => rfl, fun h => absurd h (by decide : ¬ 2 ≤ 1)⟩) (fun _ _ => ⟨(by decide : 1 ≤ 4), fun _ => rfl, fun _ => rfl, fun _ => rfl⟩) ⟨(by decide : 0 ≤ 4), fun _ => rfl, fun _ => rfl, fun _ => rfl⟩ ha hb hc hd
theorem ld_ok (hr : Row row) (hb : Beh rest) (ht : tl ≤ 3) : WsOk (ldM row tl rest) := by
  obtain ⟨e1, e2, e3, e4⟩ := ld_eq (tl := tl) hr hb
  have h := (shape_len (cI_nn row 0) (cI_nn row 1) (cI_nn row 2) (cI_nn row 3)).1
  refine ⟨?_, e2 ▸ Int.natCast_nonneg tl, e2 ▸ Int.ofNat_le.mpr (Nat.le_trans ht (by decide))⟩
  rw [e1]
  exact Nat.le_trans h (by decide)
theorem max_at {a b : Int} {t k : Nat} (h1 : a ≤ k) (h2 : t ≤ k) : ∃ m : Nat, max a (t : Int) = m ∧ m ≤ k ∧ a ≤ m ∧ t ≤ m := by
  have h0 : (t : Int) ≤ max a t := Int.le_max_right ..
  obtain ⟨m, hm⟩ := Int.eq_ofNat_of_zero_le (Int.le_trans (Int.natCast_nonneg t) h0)
  have hk : max a (t : Int) ≤ k := Int.max_le.mpr ⟨h1, Int.ofNat_le.mpr h2⟩
  have ha : a ≤ max a (t : Int) := Int.le_max_left ..
  rw [hm] at h0 hk ha
  exact ⟨m, hm, Int.ofNat_le.mp hk, ha, Int.ofNat_le.mp h0⟩
theorem lon_facts {LX LY tl tl' : Nat} (h1 : LX ≤ 4) (h2 : LY ≤ 4) (h3 : tl ≤ 3) (h4 : tl' ≤ 3) : ∃ N : Nat, (max (max ((LX : Int) - 1) (tl : Int)) (max ((LY : Int) - 1) (tl' : Int))).toNat = N ∧ N ≤ 3 ∧ tl ≤ N ∧ tl' ≤ N ∧ LX ≤ N + 1 ∧ LY ≤ N + 1 := by
  have c {L : Nat} (h : L ≤ 4) : (L : Int) - 1 ≤ (3 : Nat) := Int.sub_le_sub_right (Int.ofNat_le.mpr h) 1
  obtain ⟨m, e1, k1, a1, t1⟩ := max_at (b := 0) (c h1) h3
  obtain ⟨m', e2, k2, a2, t2⟩ := max_at (b := 0) (c h2) h4
  have s {L m N : Nat} (h : (L : Int) - 1 ≤ m) (q : m ≤ N) : L ≤ N + 1 := Int.ofNat_le.mp (Int.le_trans (Int.le_add_of_sub_right_le h) (Int.ofNat_le.mpr (Nat.succ_le_succ q)))
  rw [e1, e2]
  obtain ⟨N, e3, k3, a3, t3⟩ := max_at (b := 0) (a := (m : Int)) (Int.ofNat_le.mpr k1) k2
  have a3 := Int.ofNat_le.mp a3
  rw [e3]
  exact ⟨N, rfl, k3, Nat.le_trans t1 a3, Nat.le_trans t2 t3, s a1 a3, s a2 t3⟩
theorem ar0 {p q : Int} {t t' : Nat} (h2 : t' ≤ 3) (h : (t : Int) + p < t' + q) : p ≤ q ↔ (t : Int) + p < t' + q ∧ (t : Int) + 2 * p < t' + 2 * q ∧ (t : Int) + 3 * p < t' + 3 * q ∧ (t : Int) + 4 * p < t' + 4 * q := by omega
theorem ar1 {p q : Int} {t t' : Nat} (h1 : t ≤ 1) (h2 : t' ≤ 1) (h : (t : Int) + 2 * p < t' + 2 * q) : (t : Int) + 3 * p < t' + 3 * q ∧ (t : Int) + 4 * p < t' + 4 * q := by omega
theorem ar2 {p q : Int} {t t' : Nat} (h1 : t ≤ 2) (h2 : t' ≤ 2) (h : (t : Int) + 3 * p < t' + 3 * q) : (t : Int) + 4 * p < t' + 4 * q := by omega
theorem allLt_succ {X Y : Ws} (ts k : Nat) : allLt X Y ts (k + 1) = (decide (indM X ts < indM Y ts) && allLt X Y (ts + 1) k) := by
  rw [allLt]
  by_cases h : indM Y ts ≤ indM X ts
  · rw [if_pos h, decide_eq_false (Int.not_lt.mpr h)]; rfl
  · rw [if_neg h, decide_eq_true (Int.not_le.mp h)]; rfl
theorem allLt_3 {X Y : Ws} {a2 a3 a4 b2 b3 b4 : Int} (i2 : indM X 2 = a2) (i3 : indM X 3 = a3) (i4 : indM X 4 = a4) (j2 : indM Y 2 = b2) (j3 : indM Y 3 = b3) (j4 : indM Y 4 = b4) :
    ∀ N : Nat, N ≤ 3 → (allLt X Y 2 N = true ↔ (1 ≤ N → a2 < b2) ∧ (2 ≤ N → a3 < b3) ∧ (3 ≤ N → a4 < b4)) := by
  subst i2 i3 i4 j2 j3 j4
  have n {p : Prop} {i k : Nat} (h : ¬ i ≤ k) : i ≤ k → p := fun q => absurd q h
  intro N hN
  match N, hN with
  | 0, _ => exact ⟨fun _ => ⟨n (by decide), n (by decide), n (by decide)⟩, fun _ => rfl⟩
  | 1, _ =>
    rw [allLt_succ, Bool.and_eq_true, decide_eq_true_eq]
    exact ⟨fun h => ⟨fun _ => h.1, n (by decide), n (by decide)⟩, fun h => ⟨h.1 (Nat.le_refl 1), rfl⟩⟩
  | 2, _ =>
    rw [allLt_succ, allLt_succ, Bool.and_eq_true, Bool.and_eq_true, decide_eq_true_eq, decide_eq_true_eq]
    exact ⟨fun h => ⟨fun _ => h.1, fun _ => h.2.1, n (by decide)⟩, fun h => ⟨h.1 (by decide), h.2.1 (Nat.le_refl 2), rfl⟩⟩
  | 3, _ =>
    rw [allLt_succ, allLt_succ, allLt_succ, Bool.and_eq_true, Bool.and_eq_true, Bool.and_eq_true, decide_eq_true_eq, decide_eq_true_eq, decide_eq_true_eq]
    exact ⟨fun h => ⟨fun _ => h.1, fun _ => h.2.1, fun _ => h.2.2.1⟩, fun h => ⟨h.1 (by decide), h.2.1 (by decide), h.2.2 (Nat.le_refl 3), rfl⟩⟩
theorem allLt_d {X Y : Ws} {a2 a3 a4 b2 b3 b4 : Int} (i2 : indM X 2 = a2) (i3 : indM X 3 = a3) (i4 : indM X 4 = a4) (j2 : indM Y 2 = b2) (j3 : indM Y 3 = b3) (j4 : indM Y 4 = b4) (N : Nat) (hN : N ≤ 3) : allLt X Y 2 N = decide ((1 ≤ N → a2 < b2) ∧ (2 ≤ N → a3 < b3) ∧ (3 ≤ N → a4 < b4)) :=
  Bool.eq_iff_iff.mpr ((allLt_3 i2 i3 i4 j2 j3 j4 N hN).trans decide_eq_true_iff.symm)
theorem lev_at (row : List Int) (tl : Int) : lev row tl 1 = tl + (cI row 0 + cI row 1 + cI row 2 + cI row 3) + (cI row 1 + 2 * cI row 2 + 3 * cI row 3) ∧ lev row tl 2 = tl + 2 * (cI row 0 + cI row 1 + cI row 2 + cI row 3) + 2 * (cI row 2 + cI row 3) ∧
    lev row tl 3 = tl + 3 * (cI row 0 + cI row 1 + cI row 2 + cI row 3) + 3 * cI row 3 ∧ lev row tl 4 = tl + 4 * (cI row 0 + cI row 1 + cI row 2 + cI row 3) := by
  exact ⟨congrArg (fun x : Int => tl + x + _) (Int.one_mul _), rfl, rfl, Int.add_zero _⟩
theorem less_core {LX LY N t t' : Nat} {p0 p1 p2 p3 r0 r1 r2 r3 : Int} (ht' : t' ≤ 3) (nN : N ≤ 3) (t1 : t ≤ N) (t2 : t' ≤ N) (x1 : LX ≤ N + 1) (y1 : LY ≤ N + 1)
    (X3 : LX ≤ 3 → p3 = 0) (X2 : LX ≤ 2 → p2 = 0) (X1 : LX ≤ 1 → p1 = 0) (Y3 : LY ≤ 3 → r3 = 0) (Y2 : LY ≤ 2 → r2 = 0) (Y1 : LY ≤ 1 → r1 = 0) {a1 a2 a3 a4 b1 b2 b3 b4 : Int}
    (ea1 : a1 = t + (p0 + p1 + p2 + p3) + (p1 + 2 * p2 + 3 * p3)) (ea2 : a2 = t + 2 * (p0 + p1 + p2 + p3) + 2 * (p2 + p3)) (ea3 : a3 = t + 3 * (p0 + p1 + p2 + p3) + 3 * p3) (ea4 : a4 = t + 4 * (p0 + p1 + p2 + p3))
    (eb1 : b1 = t' + (r0 + r1 + r2 + r3) + (r1 + 2 * r2 + 3 * r3)) (eb2 : b2 = t' + 2 * (r0 + r1 + r2 + r3) + 2 * (r2 + r3)) (eb3 : b3 = t' + 3 * (r0 + r1 + r2 + r3) + 3 * r3) (eb4 : b4 = t' + 4 * (r0 + r1 + r2 + r3)) :
    (if b1 ≤ a1 then false else if LX ≤ 1 ∧ LY ≤ 1 then decide (p0 + p1 + p2 + p3 ≤ r0 + r1 + r2 + r3) else decide ((1 ≤ N → a2 < b2) ∧ (2 ≤ N → a3 < b3) ∧ (3 ≤ N → a4 < b4))) = decide (a1 < b1 ∧ a2 < b2 ∧ a3 < b3 ∧ a4 < b4) := by
  by_cases h1 : b1 ≤ a1
  · rw [if_pos h1]
    exact (decide_eq_false fun q => Int.not_lt.mpr h1 q.1).symm
  · rw [if_neg h1]
    have h1 := Int.not_le.mp h1
    by_cases hs : LX ≤ 1 ∧ LY ≤ 1
    · rw [if_pos hs]
      have z3 := X3 (Nat.le_trans hs.1 (by decide))
      have z2 := X2 (Nat.le_trans hs.1 (by decide))
      have z1 := X1 hs.1
      have w3 := Y3 (Nat.le_trans hs.2 (by decide))
      have w2 := Y2 (Nat.le_trans hs.2 (by decide))
      have w1 := Y1 hs.2
      subst z1 z2 z3 w1 w2 w3
      apply decide_eq_decide.mpr
      have k := ar0 (p := p0) (q := r0) (t := t) (t' := t') ht' (by clear X3 X2 X1 Y3 Y2 Y1 x1 y1 t1 t2 hs; omega)
      have f1 : a1 = t + p0 := by rw [ea1]; simp
      have f2 : a2 = t + 2 * p0 := by rw [ea2]; simp
      have f3 : a3 = t + 3 * p0 := by rw [ea3]; simp
      have f4 : a4 = t + 4 * p0 := by rw [ea4]; simp
      have g1 : b1 = t' + r0 := by rw [eb1]; simp
      have g2 : b2 = t' + 2 * r0 := by rw [eb2]; simp
      have g3 : b3 = t' + 3 * r0 := by rw [eb3]; simp
      have g4 : b4 = t' + 4 * r0 := by rw [eb4]; simp
      rw [f1, f2, f3, f4, g1, g2, g3, g4, ← k]
      simp
    · rw [if_neg hs]
      have h : N = 0 ∨ N = 1 ∨ N = 2 ∨ N = 3 := by clear X3 X2 X1 Y3 Y2 Y1 ea1 ea2 ea3 ea4 eb1 eb2 eb3 eb4; omega
      apply decide_eq_decide.mpr
      rcases h with rfl | rfl | rfl | rfl
      · exact absurd ⟨x1, y1⟩ hs
      · have z3 := X3 (Nat.le_trans x1 (by decide))
        have z2 := X2 x1
        have w3 := Y3 (Nat.le_trans y1 (by decide))
        have w2 := Y2 y1
        subst z3 z2 w3 w2
        clear X3 X2 X1 Y3 Y2 Y1 x1 y1 hs
        constructor
        · intro ⟨g1, _, _⟩
          have g1 := g1 (by decide)
          obtain ⟨k3, k4⟩ := ar1 (p := p0 + p1) (q := r0 + r1) (t := t) (t' := t') t1 t2 (by clear ea1 eb1 ea3 eb3 ea4 eb4 h1; omega)
          exact ⟨h1, g1, by clear ea1 eb1 ea2 eb2 ea4 eb4 h1 g1; omega, by clear ea1 eb1 ea2 eb2 ea3 eb3 h1 g1; omega⟩
        · intro ⟨_, g, _, _⟩; exact ⟨fun _ => g, fun q => absurd q (by decide), fun q => absurd q (by decide)⟩
      · have z3 := X3 x1
        have w3 := Y3 y1
        subst z3 w3
        clear X3 X2 X1 Y3 Y2 Y1 x1 y1 hs
        constructor
        · intro ⟨g1, g2, _⟩
          have g1 := g1 (by decide)
          have g2 := g2 (by decide)
          have k4 := ar2 (p := p0 + p1 + p2) (q := r0 + r1 + r2) (t := t) (t' := t') t1 t2 (by clear ea1 eb1 ea2 eb2 ea4 eb4 h1 g1; omega)
          exact ⟨h1, g1, g2, by clear ea1 eb1 ea2 eb2 ea3 eb3 h1 g1 g2; omega⟩
        · intro ⟨_, g, g3, _⟩; exact ⟨fun _ => g, fun _ => g3, fun q => absurd q (by decide)⟩
      · constructor
        · intro ⟨g1, g2, g3⟩
          exact ⟨h1, g1 (by decide), g2 (by decide), g3 (by decide)⟩
        · intro ⟨_, g, g3, g4⟩; exact ⟨fun _ => g, fun _ => g3, fun _ => g4⟩
theorem less_lev (hr : Row row) (hr' : Row row') (hb : Beh rest) (hb' : Beh rest') (ht : tl ≤ 3) (ht' : tl' ≤ 3) :
    lessM (ldM row tl rest) (ldM row' tl' rest') = decide (lev row tl 1 < lev row' tl' 1 ∧ lev row tl 2 < lev row' tl' 2 ∧ lev row tl 3 < lev row' tl' 3 ∧ lev row tl 4 < lev row' tl' 4) := by
  obtain ⟨e1, e2, e3, e4⟩ := ld_eq (tl := tl) hr hb
  obtain ⟨f1, f2, f3, f4⟩ := ld_eq (tl := tl') hr' hb'
  obtain ⟨X4, X3, X2, X1⟩ := shape_len (cI_nn row 0) (cI_nn row 1) (cI_nn row 2) (cI_nn row 3)
  obtain ⟨Y4, Y3, Y2, Y1⟩ := shape_len (cI_nn row' 0) (cI_nn row' 1) (cI_nn row' 2) (cI_nn row' 3)
  rw [← e1] at X4 X3 X2 X1
  rw [← f1] at Y4 Y3 Y2 Y1
  obtain ⟨la1, la2, la3, la4⟩ := lev_at row tl
  obtain ⟨lb1, lb2, lb3, lb4⟩ := lev_at row' tl'
  obtain ⟨N, n0, n1, n2, n3, n4, n5⟩ := lon_facts X4 Y4 ht ht'
  have all := allLt_d (ind_lev (tl := tl) hr hb (ts := 2) (by decide) (by decide)) (ind_lev (tl := tl) hr hb (ts := 3) (by decide) (by decide)) (ind_lev (tl := tl) hr hb (ts := 4) (by decide) (by decide))
    (ind_lev (tl := tl') hr' hb' (ts := 2) (by decide) (by decide)) (ind_lev (tl := tl') hr' hb' (ts := 3) (by decide) (by decide)) (ind_lev (tl := tl') hr' hb' (ts := 4) (by decide) (by decide)) _ n1
  unfold lessM lonM
  rw [e3, f3, e2, f2, e4, f4, n0, all, row_len row hr, row_len row' hr']
  exact less_core ht' n1 n2 n3 n4 n5 X3 X2 X1 Y3 Y2 Y1 la1 la2 la3 la4 lb1 lb2 lb3 lb4
end
end Mine
end

noncomputable section
--# Mt6
namespace Mine
open PySem PySem.W PyProof.Rows PySem.Calls

section
variable {row row' : List Int} {tl tl' : Nat} {rest rest' : List Nat}
theorem shape_get {a b c d : Int} (ha : 0 ≤ a) (hb : 0 ≤ b) (hc : 0 ≤ c) (hd : 0 ≤ d) : (shape a b c d).getD 0 0 = a ∧ (shape a b c d).getD 1 0 = b ∧ (shape a b c d).getD 2 0 = c ∧ (shape a b c d).getD 3 0 = d :=
  shapeE (P := fun a b c d l => l.getD 0 0 = a ∧ l.getD 1 0 = b ∧ l.getD 2 0 = c ∧ l.getD 3 0 = d) (fun _ _ _ _ _ _ _ _ => ⟨rfl, rfl, rfl, rfl⟩) (fun _ _ _ _ _ _ => ⟨rfl, rfl, rfl, rfl⟩) (fun _ _ _ _ => ⟨rfl, rfl, rfl, rfl⟩) (fun _ _ => ⟨rfl, rfl, rfl, rfl⟩) ⟨rfl, rfl, rfl, rfl⟩ ha hb hc hd
theorem shape_inj {a b c d a' b' c' d' : Int} (ha : 0 ≤ a) (hb : 0 ≤ b) (hc : 0 ≤ c) (hd : 0 ≤ d) (ha' : 0 ≤ a') (hb' : 0 ≤ b') (hc' : 0 ≤ c') (hd' : 0 ≤ d') :
    shape a b c d = shape a' b' c' d' ↔ a = a' ∧ b = b' ∧ c = c' ∧ d = d' := by
  constructor
  · intro h
    obtain ⟨x0, x1, x2, x3⟩ := shape_get ha hb hc hd
    obtain ⟨y0, y1, y2, y3⟩ := shape_get ha' hb' hc' hd'
    rw [h] at x0 x1 x2 x3
    exact ⟨x0.symm.trans y0, x1.symm.trans y1, x2.symm.trans y2, x3.symm.trans y3⟩
  · rintro ⟨rfl, rfl, rfl, rfl⟩; rfl
theorem eq_core {t t' : Nat} {p0 p1 p2 p3 r0 r1 r2 r3 : Int} (h1 : t ≤ 3) (h2 : t' ≤ 3) :
    ((p0 = r0 ∧ p1 = r1 ∧ p2 = r2 ∧ p3 = r3) ∧ (t : Int) = t') ↔ ((t : Int) + (p0 + p1 + p2 + p3) + (p1 + 2 * p2 + 3 * p3) = t' + (r0 + r1 + r2 + r3) + (r1 + 2 * r2 + 3 * r3) ∧ (t : Int) + 2 * (p0 + p1 + p2 + p3) + 2 * (p2 + p3) = t' + 2 * (r0 + r1 + r2 + r3) + 2 * (r2 + r3) ∧
      (t : Int) + 3 * (p0 + p1 + p2 + p3) + 3 * p3 = t' + 3 * (r0 + r1 + r2 + r3) + 3 * r3 ∧ (t : Int) + 4 * (p0 + p1 + p2 + p3) = t' + 4 * (r0 + r1 + r2 + r3)) := by
  constructor
  · rintro ⟨⟨rfl, rfl, rfl, rfl⟩, h⟩
    rw [h]; exact ⟨rfl, rfl, rfl, rfl⟩
  · rintro ⟨q1, q2, q3, q4⟩
    have ht : (t : Int) = t' := by omega
    have hs : p0 + p1 + p2 + p3 = r0 + r1 + r2 + r3 := by omega
    rw [hs, ht] at q3 q2 q1
    have h3 : p3 = r3 := by omega
    have h2 : p2 = r2 := by omega
    have h1 : p1 = r1 := by omega
    exact ⟨⟨by omega, h1, h2, h3⟩, ht⟩
theorem eq_lev (hr : Row row) (hr' : Row row') (hb : Beh rest) (hb' : Beh rest') (ht : tl ≤ 3) (ht' : tl' ≤ 3) :
    ((ldM row tl rest).cnt = (ldM row' tl' rest').cnt ∧ (ldM row tl rest).tl = (ldM row' tl' rest').tl) ↔ (lev row tl 1 = lev row' tl' 1 ∧ lev row tl 2 = lev row' tl' 2 ∧ lev row tl 3 = lev row' tl' 3 ∧ lev row tl 4 = lev row' tl' 4) := by
  obtain ⟨e1, e2, _, _⟩ := ld_eq (tl := tl) hr hb
  obtain ⟨f1, f2, _, _⟩ := ld_eq (tl := tl') hr' hb'
  obtain ⟨la1, la2, la3, la4⟩ := lev_at row tl
  obtain ⟨lb1, lb2, lb3, lb4⟩ := lev_at row' tl'
  rw [e1, f1, e2, f2, la1, la2, la3, la4, lb1, lb2, lb3, lb4, shape_inj (cI_nn row 0) (cI_nn row 1) (cI_nn row 2) (cI_nn row 3) (cI_nn row' 0) (cI_nn row' 1) (cI_nn row' 2) (cI_nn row' 3)]
  exact eq_core ht ht'
theorem sort_eq (hr : Row row) (hr' : Row row') (hb : Beh rest) (hb' : Beh rest') {ms ms' : List Int} (p : ms.Perm row) (p' : ms'.Perm row') (s : ms.Pairwise (· ≤ ·)) (s' : ms'.Pairwise (· ≤ ·)) :
    ((ldM row tl rest).cnt = (ldM row' tl rest').cnt ∧ (ldM row tl rest).tl = (ldM row' tl rest').tl) ↔ ms = ms' := by
  obtain ⟨e1, e2, _, _⟩ := ld_eq (tl := tl) hr hb
  obtain ⟨f1, f2, _, _⟩ := ld_eq (tl := tl) hr' hb'
  rw [e1, f1, e2, f2, shape_inj (cI_nn row 0) (cI_nn row 1) (cI_nn row 2) (cI_nn row 3) (cI_nn row' 0) (cI_nn row' 1) (cI_nn row' 2) (cI_nn row' 3)]
  constructor
  · rintro ⟨⟨h0, h1, h2, h3⟩, _⟩
    refine List.Perm.eq_of_pairwise (fun a b _ _ h h' => Int.le_antisymm h h') s s' ?_
    refine p.trans (List.Perm.trans ?_ p'.symm)
    rw [List.perm_iff_count]
    intro a
    by_cases ha : 0 ≤ a ∧ a ≤ 3
    · have : a = 0 ∨ a = 1 ∨ a = 2 ∨ a = 3 := by omega
      unfold cI at h0 h1 h2 h3
      rcases this with rfl | rfl | rfl | rfl <;> omega
    · rw [List.count_eq_zero.mpr fun h => ha (hr a h), List.count_eq_zero.mpr fun h => ha (hr' a h)]
  · rintro rfl
    have q : row.Perm row' := p.symm.trans p'
    unfold cI
    rw [q.count_eq, q.count_eq, q.count_eq, q.count_eq]
    exact ⟨⟨rfl, rfl, rfl, rfl⟩, rfl⟩
theorem all4_iff {P : Int → Prop} {g1 g2 g3 g4 : Int} : (∀ a ∈ [g1, g2, g3, g4], P a) ↔ P g1 ∧ P g2 ∧ P g3 ∧ P g4 := by
  rw [List.forall_mem_cons, List.forall_mem_cons, List.forall_mem_cons, List.forall_mem_singleton]
theorem max_neg {g1 g2 g3 g4 m : Int} (hm : m ∈ [g1, g2, g3, g4]) (h : ∀ a ∈ [g1, g2, g3, g4], a ≤ m) : m < 0 ↔ g1 < 0 ∧ g2 < 0 ∧ g3 < 0 ∧ g4 < 0 :=
  Iff.trans ⟨fun q a ha => Int.lt_of_le_of_lt (h a ha) q, fun q => q m hm⟩ (all4_iff (P := (· < 0)))
theorem min_pos {g1 g2 g3 g4 m : Int} (hm : m ∈ [g1, g2, g3, g4]) (h : ∀ a ∈ [g1, g2, g3, g4], m ≤ a) : 0 < m ↔ 0 < g1 ∧ 0 < g2 ∧ 0 < g3 ∧ 0 < g4 :=
  Iff.trans ⟨fun q a ha => Int.lt_of_lt_of_le q (h a ha), fun q => q m hm⟩ (all4_iff (P := (0 < ·)))
end
end Mine
end

noncomputable section
--# Mt7
namespace Mine
open PySem PySem.W PyProof.Rows PySem.Calls

abbrev St2 := List Int × List Int
section
variable (ws : List Ws) (nums : List Int) (x : Int)
noncomputable def pgN (lo : Nat) : Nat → St2 → St2
  | 0, st => st
  | k + 1, st => pgN lo k (pgStep ws nums x (lo + k) st.1 st.2)
noncomputable def okStep (k : Nat) (st : St2) : Prop := IntMulOk x (st.1.getD k 0) ∧ IntMulOk (st.2.getD (overM ws k) 0) (x * st.1.getD k 0 + st.2.getD k 0) ∧ IntMulOk (nums.getD k 0) (st.1.getD k 0)
    ∧ IntMulOk (nums.getD k 0 * st.1.getD k 0) (st.1.getD (overM ws k) 0) ∧ IntMulOk (st.1.getD (overM ws k) 0) (x * st.1.getD k 0 + st.2.getD k 0)
noncomputable def okN (lo : Nat) : Nat → St2 → Prop
  | 0, _ => True
  | k + 1, st => okStep ws nums x (lo + k) st ∧ okN lo k (pgStep ws nums x (lo + k) st.1 st.2)
end
section
variable {ws : List Ws} {nums : List Int} {x : Int}
theorem pgGo_N : ∀ (K : Nat) (b f : List Int), pgGo ws nums x K b f = pgN ws nums x 1 K (b, f)
  | 0, b, f => rfl
  | K + 1, b, f => by
    rw [pgGo, pgN, pgGo_N K]
    rw [show 1 + K = K + 1 by omega]
theorem pgOk_N : ∀ (K : Nat) (b f : List Int), okN ws nums x 1 K (b, f) → IntMulOk x ((pgN ws nums x 1 K (b, f)).1.getD 0 0) → PgOk ws nums x K b f
  | 0, b, f, _, h => h
  | K + 1, b, f, h, h2 => by
    rw [okN, show 1 + K = K + 1 by omega] at h
    obtain ⟨⟨a1, a2, a3, a4, a5⟩, h⟩ := h
    rw [pgN, show 1 + K = K + 1 by omega] at h2
    exact ⟨a1, a2, a3, a4, a5, pgOk_N K _ _ h h2⟩
theorem pgN_add (lo k1 : Nat) : ∀ (k2 : Nat) (st : St2), pgN ws nums x lo (k1 + k2) st = pgN ws nums x lo k1 (pgN ws nums x (lo + k1) k2 st)
  | 0, st => rfl
  | k2 + 1, st => by
    rw [← Nat.add_assoc, pgN, pgN, pgN_add lo k1 k2, Nat.add_assoc]
theorem okN_add (lo k1 : Nat) : ∀ (k2 : Nat) (st : St2), okN ws nums x lo (k1 + k2) st ↔ okN ws nums x (lo + k1) k2 st ∧ okN ws nums x lo k1 (pgN ws nums x (lo + k1) k2 st)
  | 0, st => by simp [okN, pgN]
  | k2 + 1, st => by
    rw [← Nat.add_assoc, okN, okN, okN_add lo k1 k2, pgN, Nat.add_assoc, and_assoc]
end
theorem getD_set {l : List Int} {i j : Nat} {v : Int} (hi : i < l.length) : (l.set i v).getD j 0 = if i = j then v else l.getD j 0 := by
  rw [List.getD_eq_getElem?_getD, List.getElem?_set, List.getD_eq_getElem?_getD]
  by_cases h : i = j
  · subst h; simp [hi]
  · simp [h]
noncomputable def At (ways : List (List Int)) (o : Nat) (l : List (List Int)) : Prop := ∀ i v, l[i]? = some v → ways[o + i]? = some v
theorem At.app {ways : List (List Int)} {o : Nat} {a b : List (List Int)} (h : At ways o (a ++ b)) : At ways o a ∧ At ways (o + a.length) b := by
  constructor
  · intro i v hv
    have hi : i < a.length := by
      obtain ⟨h, _⟩ := List.getElem?_eq_some_iff.mp hv; exact h
    exact h i v (by rw [List.getElem?_append_left hi]; exact hv)
  · intro i v hv
    have := h (a.length + i) v (by rw [List.getElem?_append_right (by omega)]; simpa using hv)
    rw [← Nat.add_assoc] at this; exact this
theorem waysM_head (t : List (List Int)) (f : Nat) (way : List Int) : ∃ l, waysM t f way = way :: l := by
  cases f with
  | zero => exact ⟨[], rfl⟩
  | succ f => exact ⟨_, rfl⟩
theorem waysM_long (t : List (List Int)) : ∀ (f : Nat) (way : List Int), ∀ v ∈ waysM t f way, way.length ≤ v.length := by
  intro f
  induction f with
  | zero => intro way v hv; simp [waysM] at hv; subst hv; exact Nat.le_refl _
  | succ f ih =>
    intro way v hv
    rcases List.mem_cons.mp hv with rfl | hv
    · exact Nat.le_refl _
    · obtain ⟨c, hc, hv⟩ := List.mem_flatMap.mp hv
      obtain ⟨d, _, rfl⟩ := List.mem_map.mp hc
      have := ih _ v hv
      simp at this; omega
/-- what a page is, for its figures' sake -/
structure Pg (ws : List Ws) (nums : List Int) (t : List (List Int)) (ways : List (List Int)) : Prop where
  wt : Wt t
  num : ∀ k v, 1 ≤ k → ways[k]? = some v → nums.getD k 0 = lastW t v
  over : ∀ o k v c, o < k → ways[o]? = some v → ways[k]? = some (v ++ [c]) → (∀ j u, o < j → j < k → ways[j]? = some u → v.length + 1 ≤ u.length) → overM ws k = o
noncomputable def Fresh (st : St2) (N o m : Nat) : Prop := st.1.length = N ∧ st.2.length = N ∧ o + m ≤ N ∧ ∀ j, o ≤ j → j < o + m → st.1.getD j 0 = 1 ∧ st.2.getD j 0 = 0
noncomputable def Same (st st' : St2) (P : Nat → Prop) : Prop := st'.1.length = st.1.length ∧ st'.2.length = st.2.length ∧ ∀ j, P j → st'.1.getD j 0 = st.1.getD j 0 ∧ st'.2.getD j 0 = st.2.getD j 0
noncomputable def kidsR (t : List (List Int)) (x : Int) (f : Nat) (cs : List (List Int)) : Int × Int := cs.foldr (fun c p => kidStep x p (bfM t x f c) (lastW t c)) (1, 0)
theorem kidStep_comm (x : Int) (p u1 u2 : Int × Int) (n1 n2 : Int) : kidStep x (kidStep x p u1 n1) u2 n2 = kidStep x (kidStep x p u2 n2) u1 n1 := by
  unfold kidStep
  refine Prod.ext ?_ ?_
  · simp only; grind
  · simp only; grind
theorem kids_push (t : List (List Int)) (x : Int) (f : Nat) : ∀ (cs : List (List Int)) (p : Int × Int) (u : Int × Int) (n : Int), cs.foldl (fun p c => kidStep x p (bfM t x f c) (lastW t c)) (kidStep x p u n) = kidStep x (cs.foldl (fun p c => kidStep x p (bfM t x f c) (lastW t c)) p) u n
  | [], p, u, n => rfl
  | c :: cs, p, u, n => by rw [List.foldl_cons, List.foldl_cons, kidStep_comm, kids_push t x f cs]
theorem kidsR_eq (t : List (List Int)) (x : Int) (f : Nat) : ∀ cs : List (List Int), kidsR t x f cs = cs.foldl (fun p c => kidStep x p (bfM t x f c) (lastW t c)) (1, 0)
  | [] => rfl
  | c :: cs => by
    rw [List.foldl_cons, kids_push, ← kidsR_eq t x f cs]; rfl
theorem kidsR_bits {t : List (List Int)} {x : Int} {X : Nat} (hw : Wt t) (hx : bits x ≤ X) (hX : X ≤ 2000) {f : Nat} (hf : f ≤ 2) {cs : List (List Int)} (hc : cs.length ≤ 4) : bits (kidsR t x f cs).1 ≤ 1000000 ∧ bits (kidsR t x f cs).2 ≤ 1000000 := by
  rw [kidsR_eq]
  have h := fold_bits hx (bfM t x f) (lastW t) (bfM_bits hw hx f) (num_bits hw) cs (1, 0) 1 (show bits 1 ≤ 1 from intBits_le_iff.mpr (by decide)) (show bits 0 ≤ 1 from intBits_le_iff.mpr (by decide))
  have hb := Bd_le hX f (by omega)
  have : cs.length * (X + Bd X f + 8) ≤ 4 * (X + Bd X f + 8) := Nat.mul_le_mul_right _ hc
  exact ⟨bits_mono h.1 (by omega), bits_mono h.2 (by omega)⟩
section
variable {ws : List Ws} {nums : List Int} {t : List (List Int)} {ways : List (List Int)} {x : Int} {X : Nat}
theorem page_kids (P : Pg ws nums t ways) (hx : bits x ≤ X) (hX : X ≤ 2000) {f : Nat} (hf : f ≤ 2) {way : List Int} {o : Nat} (ho : ways[o]? = some way) {N : Nat} (hN : ways.length = N)
    (A : ∀ (c : List Int) (o : Nat) (st : St2), At ways o (waysM t f c) → Fresh st N o (waysM t f c).length →
      okN ws nums x (o + 1) ((waysM t f c).length - 1) st ∧ ((pgN ws nums x (o + 1) ((waysM t f c).length - 1) st).1.getD o 0, (pgN ws nums x (o + 1) ((waysM t f c).length - 1) st).2.getD o 0) = bfM t x f c ∧
        Same st (pgN ws nums x (o + 1) ((waysM t f c).length - 1) st) fun j => j < o ∨ o + (waysM t f c).length ≤ j) :
    ∀ (cs es : List (List Int)), es ++ cs = furM way t → ∀ (o' : Nat) (st : St2), o' = o + 1 + (es.flatMap (waysM t f)).length → At ways (o + 1) (es.flatMap (waysM t f)) → At ways o' (cs.flatMap (waysM t f)) → Fresh st N o' (cs.flatMap (waysM t f)).length →
      (st.1.getD o 0, st.2.getD o 0) = (1, 0) →
      okN ws nums x o' (cs.flatMap (waysM t f)).length st ∧ ((pgN ws nums x o' (cs.flatMap (waysM t f)).length st).1.getD o 0, (pgN ws nums x o' (cs.flatMap (waysM t f)).length st).2.getD o 0) = kidsR t x f cs ∧
        Same st (pgN ws nums x o' (cs.flatMap (waysM t f)).length st) fun j => j ≠ o ∧ (j < o' ∨ o' + (cs.flatMap (waysM t f)).length ≤ j) := by
  intro cs
  induction cs with
  | nil =>
    intro es _ o' st _ _ _ _ hp
    exact ⟨trivial, hp, rfl, rfl, fun j _ => ⟨rfl, rfl⟩⟩
  | cons c cs ih =>
    intro es hes o' st ho' hae hac hfr hp
    rw [List.flatMap_cons] at hac hfr ⊢
    obtain ⟨hc1, hc2⟩ := hac.app
    rw [List.length_append] at hfr ⊢
    generalize hm : (waysM t f c).length = m at *
    generalize hM : (cs.flatMap (waysM t f)).length = M at *
    obtain ⟨F1, F2, F3, F4⟩ := hfr
    obtain ⟨l0, hl0⟩ := waysM_head t f c
    have hm1 : 1 ≤ m := by rw [← hm, hl0]; simp
    have hcw : c ∈ furM way t := by rw [← hes]; simp
    -- the later ones
    have I := ih (es ++ [c]) (by rw [← hes]; simp) (o' + m) st (by rw [ho', List.flatMap_append, List.length_append]; simp [hm]; omega) (by
      rw [List.flatMap_append]
      intro i v hv
      by_cases hi : i < (es.flatMap (waysM t f)).length
      · exact hae i v (by rw [List.getElem?_append_left hi] at hv; exact hv)
      · rw [List.getElem?_append_right (by omega)] at hv
        have := hc1 (i - (es.flatMap (waysM t f)).length) v (by simpa using hv)
        rwa [show o' + (i - (es.flatMap (waysM t f)).length) = o + 1 + i by omega] at this) hc2 ⟨F1, F2, by omega, fun j h1 h2 => F4 j (by omega) (by omega)⟩ hp
    obtain ⟨ok1, v1, s11, s12, s13⟩ := I
    rw [okN_add, pgN_add]
    generalize hst1 : pgN ws nums x (o' + m) M st = st1 at *
    -- the block's own
    have hfr1 : Fresh st1 N o' m := ⟨by omega, by omega, by omega, fun j h1 h2 => by
      rw [(s13 j ⟨by omega, .inl (by omega)⟩).1, (s13 j ⟨by omega, .inl (by omega)⟩).2]; exact F4 j (by omega) (by omega)⟩
    have B := A c o' st1 hc1 (by rw [hm]; exact hfr1)
    rw [hm] at B
    obtain ⟨ok2, v2, s21, s22, s23⟩ := B
    obtain ⟨m', hm'⟩ : ∃ m', m = 1 + m' := ⟨m - 1, by omega⟩
    have em : m - 1 = m' := by omega
    rw [em] at ok2 v2 s21 s22 s23
    have e3 : pgN ws nums x o' m st1 = pgStep ws nums x o' (pgN ws nums x (o' + 1) m' st1).1 (pgN ws nums x (o' + 1) m' st1).2 := by
      rw [hm', pgN_add]; rfl
    have e4 : okN ws nums x o' m st1 ↔ okN ws nums x (o' + 1) m' st1 ∧ okStep ws nums x o' (pgN ws nums x (o' + 1) m' st1) := by
      rw [hm', okN_add]
      show _ ∧ (okStep ws nums x (o' + 0) _ ∧ True) ↔ _
      simp
    rw [e3, e4]
    generalize hst2 : pgN ws nums x (o' + 1) m' st1 = st2 at *
    have hoo : o < o' := by omega
    have hat : ways[o']? = some c := by
      have := hc1 0 c (by rw [hl0]; rfl)
      simpa using this
    obtain ⟨d, hd, hcd⟩ := List.mem_map.mp hcw
    have hover : overM ws o' = o := by
      refine P.over o o' way d hoo ho (by rw [hat, hcd]) fun j u h1 h2 hu => ?_
      have hj : j - (o + 1) < (es.flatMap (waysM t f)).length := by omega
      have hv := hae (j - (o + 1)) _ (List.getElem?_eq_getElem hj)
      rw [show o + 1 + (j - (o + 1)) = j by omega, hu] at hv
      have hu2 : u ∈ es.flatMap (waysM t f) := by
        rw [Option.some.inj hv]; exact List.getElem_mem _
      obtain ⟨e, he, hue⟩ := List.mem_flatMap.mp hu2
      have he2 : e ∈ furM way t := by rw [← hes]; simp [he]
      obtain ⟨d2, _, rfl⟩ := List.mem_map.mp he2
      have := waysM_long t f _ u hue
      simpa using this
    have hnum : nums.getD o' 0 = lastW t c := P.num o' c (by omega) hat
    have hb : st2.1.getD o' 0 = (bfM t x f c).1 ∧ st2.2.getD o' 0 = (bfM t x f c).2 := by
      rw [← v2]; exact ⟨rfl, rfl⟩
    have hpo : st2.1.getD o 0 = (kidsR t x f cs).1 ∧ st2.2.getD o 0 = (kidsR t x f cs).2 := by
      rw [(s23 o (.inl hoo)).1, (s23 o (.inl hoo)).2, ← v1]; exact ⟨rfl, rfl⟩
    obtain ⟨bb1, bb2⟩ := bfM_bits P.wt hx f c
    have hBd := Bd_le hX f (by omega)
    have hcl : cs.length ≤ 4 := by
      have h4 : (furM way t).length ≤ 4 := by unfold furM; rw [List.length_map]; exact furC_len ..
      have := congrArg List.length hes
      simp at this; omega
    obtain ⟨kb1, kb2⟩ := kidsR_bits (X := X) P.wt hx hX hf hcl
    obtain ⟨k1, k2, _, _⟩ := kidStep_bits (p := (1, 0)) (um := bfM t x f c) (num := lastW t c) (j := 1) hx (num_bits P.wt c) bb1 bb2 (show bits 1 ≤ 1 from intBits_le_iff.mpr (by decide)) (show bits 0 ≤ 1 from intBits_le_iff.mpr (by decide))
    have hNo : o < N := by
      have := (List.getElem?_eq_some_iff.mp ho).1; omega
    have hstep : pgStep ws nums x o' st2.1 st2.2 = (st2.1.set o (kidStep x (kidsR t x f cs) (bfM t x f c) (lastW t c)).1, st2.2.set o (kidStep x (kidsR t x f cs) (bfM t x f c) (lastW t c)).2) := by
      unfold pgStep kidStep
      rw [hover, hb.1, hb.2, hnum]
      simp only
      rw [hpo.1, hpo.2]
    rw [hstep]
    refine ⟨⟨ok1, ok2, ?_⟩, ?_, ?_⟩
    · unfold okStep
      rw [hover, hb.1, hb.2, hpo.1, hpo.2, hnum]
      exact ⟨mulOk (bits_mono hx (by omega)) (bits_mono bb1 (by omega)), mulOk kb2 (bits_mono k1 (by omega)), mulOk (bits_mono (num_bits P.wt c) (by omega)) (bits_mono bb1 (by omega)), mulOk (bits_mono k2 (by omega)) kb1, mulOk kb1 (bits_mono k1 (by omega))⟩
    · simp only
      rw [getD_set (by omega), getD_set (by omega), if_pos rfl, if_pos rfl]
      rfl
    · refine ⟨?_, ?_, fun j hj => ?_⟩
      · simp only [List.length_set]; omega
      · simp only [List.length_set]; omega
      · simp only
        rw [getD_set (by omega), getD_set (by omega), if_neg (fun q => hj.1 q.symm), if_neg (fun q => hj.1 q.symm)]
        have q1 := s23 j (by rcases hj.2 with h | h; exact .inl h; exact .inr (by omega))
        have q2 := s13 j ⟨hj.1, by rcases hj.2 with h | h; exact .inl (by omega); exact .inr (by omega)⟩
        exact ⟨q1.1.trans q2.1, q1.2.trans q2.2⟩
theorem page_block (P : Pg ws nums t ways) (hx : bits x ≤ X) (hX : X ≤ 2000) {N : Nat} (hN : ways.length = N) : ∀ (f : Nat), f ≤ 3 → ∀ (way : List Int) (o : Nat) (st : St2), At ways o (waysM t f way) → Fresh st N o (waysM t f way).length →
    okN ws nums x (o + 1) ((waysM t f way).length - 1) st ∧ ((pgN ws nums x (o + 1) ((waysM t f way).length - 1) st).1.getD o 0, (pgN ws nums x (o + 1) ((waysM t f way).length - 1) st).2.getD o 0) = bfM t x f way ∧
      Same st (pgN ws nums x (o + 1) ((waysM t f way).length - 1) st) fun j => j < o ∨ o + (waysM t f way).length ≤ j := by
  intro f
  induction f with
  | zero =>
    intro _ way o st _ hfr
    obtain ⟨F1, F2, F3, F4⟩ := hfr
    have := F4 o (Nat.le_refl _) (by simp [waysM])
    refine ⟨trivial, ?_, rfl, rfl, fun _ _ => ⟨rfl, rfl⟩⟩
    show (st.1.getD o 0, st.2.getD o 0) = (1, 0)
    rw [this.1, this.2]
  | succ f ih =>
    intro hf way o st hat hfr
    have hw : waysM t (f + 1) way = way :: (furM way t).flatMap (waysM t f) := rfl
    rw [hw] at hat hfr ⊢
    rw [List.length_cons, Nat.add_sub_cancel] at *
    obtain ⟨F1, F2, F3, F4⟩ := hfr
    have ho : ways[o]? = some way := by simpa using hat 0 way rfl
    have hat1 : At ways (o + 1) ((furM way t).flatMap (waysM t f)) := by
      have : At ways o ([way] ++ (furM way t).flatMap (waysM t f)) := hat
      exact this.app.2
    have K := page_kids P hx hX (f := f) (by omega) ho hN (ih (by omega)) (furM way t) [] rfl (o + 1) st rfl (fun i v hv => by simp at hv) hat1 ⟨F1, F2, by omega, fun j h1 h2 => F4 j (by omega) (by omega)⟩ (by
      have := F4 o (Nat.le_refl _) (by omega)
      rw [this.1, this.2])
    obtain ⟨k1, k2, k3, k4, k5⟩ := K
    refine ⟨k1, by rw [k2, kidsR_eq]; rfl, k3, k4, fun j hj => k5 j ⟨by omega, by omega⟩⟩
theorem page_all (P : Pg ws nums t ways) (hx : bits x ≤ X) (hX : X ≤ 2000) {f : Nat} (hf : f ≤ 3) {way : List Int} (hw : ways = waysM t f way) (hl : ws.length = ways.length) :
    PgOk ws nums x (ws.length - 1) (ws.map fun _ => 1) (ws.map fun _ => 0) ∧ pageM ws nums x = x * (bfM t x f way).1 + (bfM t x f way).2 := by
  have B := page_block P hx hX rfl f hf way 0 (ws.map fun _ => 1, ws.map fun _ => 0) (by
    rw [← hw]; intro i v hv; simpa using hv) ⟨by simp [hl], by simp [hl], by rw [← hw]; omega, fun j _ h2 => by
    rw [← hw] at h2
    have : j < ws.length := by omega
    simp [List.getD_eq_getElem?_getD, List.getElem?_map, List.getElem?_eq_getElem this]⟩
  rw [← hw, ← hl] at B
  obtain ⟨b1, b2, _⟩ := B
  have e1 : (pgN ws nums x (0 + 1) (ws.length - 1) (ws.map fun _ => 1, ws.map fun _ => 0)).1.getD 0 0 = (bfM t x f way).1 := by rw [← b2]
  have e2 : (pgN ws nums x (0 + 1) (ws.length - 1) (ws.map fun _ => 1, ws.map fun _ => 0)).2.getD 0 0 = (bfM t x f way).2 := by rw [← b2]
  have hB := (bfM_bits P.wt hx f way).1
  have hBd := Bd_le hX f hf
  refine ⟨pgOk_N _ _ _ b1 (by
    rw [e1]; exact mulOk (bits_mono hx (by omega)) (bits_mono hB (by omega))), ?_⟩
  unfold pageM
  simp only [pgGo_N]
  rw [e1, e2]
end
end Mine
end

noncomputable section
--# Mt8
namespace Mine
open PySem PySem.W PyProof.Rows PySem.Calls

theorem over_spec {ws : List Ws} {j0 k : Nat} {a b : Ws} (hj : j0 < k) (ha : ws[j0]? = some a) (hb : ws[k]? = some b) (h1 : lessM a b = true) (h2 : ∀ j c, j0 < j → j < k → ws[j]? = some c → lessM c b = false) : overM ws k = j0 := by
  have key : ∀ j, j0 < j → j ≤ k → overGo ws k j = j0 := by
    intro j
    induction j with
    | zero => intro h _; omega
    | succ j ih =>
      intro h hk
      rw [overGo, hb]
      by_cases hjj : j = j0
      · subst hjj
        rw [ha]
        simp [h1]
      · have hlt : j < ws.length := by
          have := (List.getElem?_eq_some_iff.mp hb).1; omega
        rw [List.getElem?_eq_getElem hlt]
        have := h2 j _ (by omega) (by omega) (List.getElem?_eq_getElem hlt)
        simp only [this]
        exact ih (by omega) (by omega)
  exact key k hj (Nat.le_refl k)
noncomputable def rowOf (rv : Int → Int) (v : List Int) : List Int := (v.drop 1).map rv
theorem rowOf_row {rv : Int → Int} (h : ∀ c, 0 ≤ rv c ∧ rv c ≤ 3) (v : List Int) : Row (rowOf rv v) := fun r hr => by
  obtain ⟨c, _, rfl⟩ := List.mem_map.mp hr; exact h c
theorem rowOf_len (rv : Int → Int) (v : List Int) : (rowOf rv v).length = v.length - 1 := by simp [rowOf]
theorem rowOf_snoc (rv : Int → Int) {v : List Int} (h : v ≠ []) (c : Int) : rowOf rv (v ++ [c]) = rowOf rv v ++ [rv c] := by
  cases v with
  | nil => exact absurd rfl h
  | cons a v => simp [rowOf]
theorem sumW_snoc (f : Int → Int) (r : Int) : ∀ row : List Int, sumW f (row ++ [r]) = sumW f row + f r
  | [] => (Int.add_zero _).trans (Int.zero_add _).symm
  | a :: row => (congrArg (f a + ·) (sumW_snoc f r row)).trans (Int.add_assoc ..).symm
theorem lev_up {row : List Int} {r tl : Int} (hr : Row row) (h : 0 ≤ r ∧ r ≤ 3) {ts : Nat} (h1 : 1 ≤ ts) (h4 : ts ≤ 4) : lev row tl ts < lev (row ++ [r]) tl ts := by
  have hr' : Row (row ++ [r]) := fun x hx => (List.mem_append.mp hx).elim (hr x) fun q => List.mem_singleton.mp q ▸ h
  have p := Int.ofNat_lt.mpr h1
  rw [← lev_tl, ← lev_tl (row ++ [r]), ← lev_w hr h1 h4, ← lev_w hr' h1 h4, sumW_snoc]
  exact Int.add_lt_add_right (Int.lt_add_of_pos_right _ (Int.mul_pos p (Int.lt_add_one_of_le (Int.ediv_nonneg h.1 (Int.le_of_lt p))))) tl
theorem lev_snoc {row : List Int} {r tl : Int} (hr : Row row) (h : 0 ≤ r ∧ r ≤ 3) : lev row tl 1 < lev (row ++ [r]) tl 1 ∧ lev row tl 2 < lev (row ++ [r]) tl 2 ∧ lev row tl 3 < lev (row ++ [r]) tl 3 ∧ lev row tl 4 < lev (row ++ [r]) tl 4 :=
  ⟨lev_up hr h (by decide) (by decide), lev_up hr h (by decide) (by decide), lev_up hr h (by decide) (by decide), lev_up hr h (by decide) (by decide)⟩
theorem lev4_len {row : List Int} (h : Row row) (tl : Int) : lev row tl 4 = tl + 4 * row.length := by
  rw [(lev_at row tl).2.2.2, row_len row h]
/-- the lines of a page, as data -/
noncomputable def leadOf (t : List (List Int)) (rv : Int → Int) (tl : Nat) (v : List Int) : Ws := ldM (rowOf rv v) tl (lastM t v ++ [120, 32, 9])
theorem signL_beh : ∀ s ∈ signL, s.head? ≠ some 32 ∧ s.head? ≠ some 9 ∧ s ≠ [] := by decide +kernel
theorem beh_last (t : List (List Int)) (v : List Int) : Beh (lastM t v ++ [120, 32, 9]) := by
  unfold lastM
  split
  · exact ⟨120, _, rfl, by decide, by decide⟩
  · rcases getD_mem_or signL (lastW t v - 9).toNat [] with h | h
    · obtain ⟨h1, h2, h3⟩ := signL_beh _ h
      generalize signL.getD (lastW t v - 9).toNat [] = s at *
      cases s with
      | nil => exact absurd rfl h3
      | cons c s => exact ⟨c, s ++ [120, 32, 9], rfl, fun q => h1 (by rw [q]; rfl), fun q => h2 (by rw [q]; rfl)⟩
    · rw [h]; exact ⟨120, _, rfl, by decide, by decide⟩
theorem pg_of {t : List (List Int)} {rv : Int → Int} (hrv : ∀ c, 0 ≤ rv c ∧ rv c ≤ 3) {tl : Nat} (htl : tl ≤ 3) (hw : Wt t) {ways : List (List Int)} (hne : ∀ v ∈ ways, v ≠ []) {nums : List Int} (hn : ∀ k v, 1 ≤ k → ways[k]? = some v → nums.getD k 0 = lastW t v) :
    Pg (ways.map (leadOf t rv tl)) nums t ways where
  wt := hw
  num := hn
  over := fun o k v c hok ho hk hj => by
    have hv : v ≠ [] := hne v (List.mem_of_getElem? ho)
    refine over_spec (a := leadOf t rv tl v) (b := leadOf t rv tl (v ++ [c])) hok (by rw [List.getElem?_map, ho]; rfl) (by rw [List.getElem?_map, hk]; rfl) ?_ fun j u h1 h2 hu => ?_
    · unfold leadOf
      rw [less_lev (rowOf_row hrv v) (rowOf_row hrv _) (beh_last t v) (beh_last t _) htl htl, rowOf_snoc rv hv]
      exact decide_eq_true (lev_snoc (rowOf_row hrv v) (hrv c))
    · rw [List.getElem?_map] at hu
      cases hw2 : ways[j]? with
      | none => rw [hw2] at hu; cases hu
      | some y =>
        rw [hw2] at hu
        cases hu
        have hl := hj j y h1 h2 hw2
        unfold leadOf
        rw [less_lev (rowOf_row hrv y) (rowOf_row hrv _) (beh_last t y) (beh_last t _) htl htl]
        refine decide_eq_false fun q => ?_
        have q := q.2.2.2
        rw [lev4_len (rowOf_row hrv y), lev4_len (rowOf_row hrv _), rowOf_len, rowOf_len, List.length_append] at q
        simp only [List.length_cons, List.length_nil] at q
        omega

/-! the matching figures of what is left of the four corners -/
noncomputable def mu (t : List (List Int)) (x : Int) : List Int → Int
  | [] => 1
  | [_] => x
  | [a, b] => x * x + T t a b
  | [a, b, c] => x * (x * x) + x * (T t a b + T t a c + T t b c)
  | [a, b, c, d] => x * x * (x * x) + x * x * (T t a b + T t a c + T t a d + T t b c + T t b d + T t c d) + (T t a b * T t c d + T t a c * T t b d + T t a d * T t b c)
  | _ => 0
noncomputable def Sym (t : List (List Int)) : Prop := ∀ i j, T t i j = T t j i
section
variable (t : List (List Int)) (x a b c d : Int)
theorem mu_0 : mu t x [] = 1 := rfl
theorem mu_1 : mu t x [a] = x := rfl
theorem mu_2 : mu t x [a, b] = x * x + T t a b := rfl
theorem mu_3 : mu t x [a, b, c] = x * (x * x) + x * (T t a b + T t a c + T t b c) := rfl
theorem mu_4 : mu t x [a, b, c, d] = x * x * (x * x) + x * x * (T t a b + T t a c + T t a d + T t b c + T t b d + T t c d) + (T t a b * T t c d + T t a c * T t b d + T t a d * T t b c) := rfl
end
theorem erase1 {a b : Int} {l : List Int} (h : a ≠ b) : (a :: l).erase b = a :: l.erase b := List.erase_cons_tail (fun q => h (eq_of_beq q))
theorem mu_rot {t : List (List Int)} (hs : Sym t) (x : Int) {R : List Int} (hR : R.length ≤ 3) (hn : R.Nodup) {c : Int} (hc : c ∈ R) : mu t x (c :: R.erase c) = mu t x R := by
  cases hc with
  | head l => rw [List.erase_cons_head]
  | @tail a l hc =>
    have hn := List.nodup_cons.mp hn
    have ac : a ≠ c := fun q => hn.1 (q ▸ hc)
    rw [erase1 ac]
    have hl : l.length ≤ 2 := Nat.le_of_succ_le_succ hR
    cases hc with
    | head l =>
      rw [List.erase_cons_head]
      cases l with
      | nil => rw [mu_2, mu_2, hs]
      | cons d l =>
        obtain rfl := List.length_eq_zero_iff.mp (Nat.le_zero.mp (Nat.le_of_succ_le_succ (Nat.le_of_succ_le_succ hl)))
        rw [mu_3, mu_3, hs c a, Int.add_assoc, Int.add_assoc, Int.add_comm (T t c d)]
    | @tail b l hc =>
      obtain rfl := List.length_eq_one_iff.mp (Nat.le_antisymm (Nat.le_of_succ_le_succ hl) (List.length_pos_of_mem hc)) |>.elim fun y hy => (by rw [hy] at hc; rw [hy, List.mem_singleton.mp hc] : l = [c])
      have bc : b ≠ c := fun q => (List.nodup_cons.mp hn.2).1 (q ▸ .head _)
      rw [erase1 bc, List.erase_cons_head, mu_3, mu_3, hs c a, hs c b, Int.add_right_comm, Int.add_comm _ (T t a b)]
theorem mu_cons {t : List (List Int)} (x u : Int) {R : List Int} (hR : R.length ≤ 3) (hn : R.Nodup) : mu t x (u :: R) = x * mu t x R + (R.map fun c => T t u c * mu t x (R.erase c)).sum := by
  cases R with
  | nil => rw [mu_1, mu_0, Int.mul_one]; exact (Int.add_zero x).symm
  | cons a R =>
    rw [List.map_cons, List.erase_cons_head, List.sum_cons]
    have h1 := List.nodup_cons.mp hn
    cases R with
    | nil => rw [mu_2, mu_1, mu_0, Int.mul_one]; exact congrArg (x * x + ·) (Int.add_zero _).symm
    | cons b R =>
      have ab : a ≠ b := fun q => h1.1 (q ▸ .head _)
      rw [List.map_cons, erase1 ab, List.erase_cons_head, List.sum_cons]
      cases R with
      | nil =>
        rw [mu_3, mu_2, mu_1, mu_1]
        show _ = x * (x * x + T t a b) + (T t u a * x + (T t u b * x + 0))
        grind
      | cons c R =>
        obtain rfl := List.length_eq_zero_iff.mp (Nat.le_zero.mp (Nat.le_of_succ_le_succ (Nat.le_of_succ_le_succ (Nat.le_of_succ_le_succ hR))))
        have ac : a ≠ c := fun q => h1.1 (q ▸ .tail _ (.head _))
        have bc : b ≠ c := fun q => (List.nodup_cons.mp h1.2).1 (q ▸ .head _)
        rw [List.map_cons, erase1 ac, erase1 bc, List.erase_cons_head, List.sum_cons, mu_4, mu_3, mu_2, mu_2, mu_2]
        show _ = x * (x * (x * x) + x * (T t a b + T t a c + T t b c)) + (T t u a * (x * x + T t b c) + (T t u b * (x * x + T t a c) + (T t u c * (x * x + T t a b) + 0)))
        grind
noncomputable def freeC (way : List Int) : List Int := corners.filter fun c => decide (c ∉ way)
theorem freeC_nodup (way : List Int) : (freeC way).Nodup := List.Pairwise.filter _ (show corners.Nodup by decide)
theorem freeC_snoc (way : List Int) {c : Int} (hc : c ∈ freeC way) : freeC (way ++ [c]) = (freeC way).erase c := by
  rw [(freeC_nodup way).erase_eq_filter]
  unfold freeC
  rw [List.filter_filter]
  congr 1
  funext d
  by_cases h1 : d ∈ way <;> by_cases h2 : d = c <;> simp [h1, h2]
theorem furC_free (way : List Int) (t : List (List Int)) : furC way t = (freeC way).filter fun c => decide (0 < T t (way.getLastD 0) c) := by
  unfold furC freeC
  rw [List.filter_filter]
theorem sum_filter {g : Int → Int} {p : Int → Bool} : ∀ {l : List Int}, (∀ c ∈ l, p c = false → g c = 0) → ((l.filter p).map g).sum = (l.map g).sum
  | [], _ => rfl
  | a :: l, h => by
    have ih := sum_filter (g := g) (p := p) (l := l) fun c hc => h c (.tail _ hc)
    cases hp : p a with
    | true => rw [List.filter_cons_of_pos hp, List.map_cons, List.map_cons, List.sum_cons, List.sum_cons, ih]
    | false =>
      rw [List.filter_cons_of_neg (by simp [hp]), List.map_cons, List.sum_cons, ih, h a (.head _) hp]; simp
theorem fold_inv {t : List (List Int)} {x M : Int} {f : Nat} {m : List Int → Int} : ∀ (cs : List (List Int)) (p : Int × Int) (S : Int), (∀ c ∈ cs, (bfM t x f c).1 * M = (x * (bfM t x f c).1 + (bfM t x f c).2) * m c) → p.2 * M = p.1 * S →
    (cs.foldl (fun p c => kidStep x p (bfM t x f c) (lastW t c)) p).2 * M = (cs.foldl (fun p c => kidStep x p (bfM t x f c) (lastW t c)) p).1 * (S + (cs.map fun c => lastW t c * m c).sum)
  | [], p, S, _, h => by simpa using h
  | c :: cs, p, S, hc, h => by
    rw [List.foldl_cons, List.map_cons, List.sum_cons]
    have h1 := hc c (.head _)
    have := fold_inv cs (kidStep x p (bfM t x f c) (lastW t c)) (S + lastW t c * m c) (fun d hd => hc d (.tail _ hd)) (by
      unfold kidStep
      simp only
      generalize (bfM t x f c).1 = u at *
      generalize x * u + (bfM t x f c).2 = G at *
      generalize lastW t c = n
      generalize m c = mc at *
      grind)
    rw [this]
    congr 1
    omega
theorem godsil {t : List (List Int)} (hs : Sym t) (hw : Wt t) (x : Int) : ∀ (f : Nat) (way : List Int), way ≠ [] → (freeC way).length ≤ f → f ≤ 3 → (x * (bfM t x f way).1 + (bfM t x f way).2) * mu t x (freeC way) = (bfM t x f way).1 * mu t x (way.getLastD 0 :: freeC way) := by
  intro f
  induction f with
  | zero =>
    intro way _ h _
    have : freeC way = [] := List.length_eq_zero_iff.mp (by omega)
    rw [this]
    simp only [bfM, mu_0, mu_1]; omega
  | succ f ih =>
    intro way hne hR hf
    have hn := freeC_nodup way
    have hk : ∀ c ∈ furM way t, (bfM t x f c).1 * mu t x (freeC way) = (x * (bfM t x f c).1 + (bfM t x f c).2) * mu t x ((freeC way).erase (c.getLastD 0)) := by
      intro c hc
      obtain ⟨d, hd, rfl⟩ := List.mem_map.mp hc
      have hdf : d ∈ freeC way := by rw [furC_free] at hd; exact (List.mem_filter.mp hd).1
      have hl : (way ++ [d]).getLastD 0 = d := by simp
      have h := ih (way ++ [d]) (by simp) (by
        rw [freeC_snoc way hdf, List.length_erase_of_mem hdf]; omega) (by omega)
      rw [freeC_snoc way hdf, hl, mu_rot hs x (by omega) hn hdf] at h
      rw [hl, h]
    have F := fold_inv (m := fun c => mu t x ((freeC way).erase (c.getLastD 0))) (furM way t) (1, 0) 0 hk (by simp)
    have hsum : ((furM way t).map fun c => lastW t c * mu t x ((freeC way).erase (c.getLastD 0))).sum = ((freeC way).map fun c => T t (way.getLastD 0) c * mu t x ((freeC way).erase c)).sum := by
      have e : ((furM way t).map fun c => lastW t c * mu t x ((freeC way).erase (c.getLastD 0))) = (furC way t).map fun c => T t (way.getLastD 0) c * mu t x ((freeC way).erase c) := by
        unfold furM
        rw [List.map_map]
        refine List.map_congr_left fun c _ => ?_
        show lastW t (way ++ [c]) * mu t x ((freeC way).erase ((way ++ [c]).getLastD 0)) = _
        rw [lastW_app t hne]
        have : (way ++ [c]).getLastD 0 = c := by simp
        rw [this]
      rw [e, furC_free]
      refine sum_filter fun c _ hp => ?_
      have : T t (way.getLastD 0) c = 0 := by
        rcases hw (way.getLastD 0) c with h | h
        · exact h
        · have hp := of_decide_eq_false hp
          omega
      rw [this]; simp
    rw [hsum, Int.zero_add] at F
    rw [mu_cons x _ (by omega) hn]
    have e : bfM t x (f + 1) way = (furM way t).foldl (fun p c => kidStep x p (bfM t x f c) (lastW t c)) (1, 0) := rfl
    rw [← e] at F
    rw [Int.add_mul, F]
    grind
end Mine
end

noncomputable section
--# Mt9
namespace Mine
open PySem PySem.W PyProof.Rows PySem.Calls

/-- a text's parts: a sign, an escaped sign, a quoted bracket -/
inductive Tk where
  | c (k : Nat)
  | e (k : Nat)
  | q
noncomputable def Tk.fl : Tk → List Nat
  | .c k => [k]
  | .e k => [92, k]
  | .q => [34, 40, 34]
noncomputable def Tk.notq : Tk → Bool
  | .q => false
  | _ => true
noncomputable def Tk.isC : Tk → Bool
  | .c _ => true
  | _ => false
noncomputable def Tk.ok : Tk → Bool
  | .c k => k != 34 && k != 92
  | _ => true
noncomputable def fl (l : List Tk) : List Nat := l.flatMap Tk.fl
theorem fl_app (a b : List Tk) : fl (a ++ b) = fl a ++ fl b := by simp [fl]
theorem fl_cons (a : Tk) (b : List Tk) : fl (a :: b) = a.fl ++ fl b := rfl
theorem esc1 (i c : Nat) (l : List Nat) (h : c ≠ 92) : escI false i (c :: l) = (i, S [c]) :: escI false (i + 1) l := by
  show (if c = 92 then _ else _) = _
  rw [if_neg h]; rfl
theorem esc2 (i k : Nat) (l : List Nat) : escI false i (92 :: k :: l) = (i + 1, S [92, k]) :: escI false (i + 2) l := by
  show (if 92 = 92 then _ else _) = _
  rw [if_pos rfl]; rfl
theorem strip_tok : ∀ (tks : List Tk), tks.all Tk.ok = true → ∀ (l pre rest : List Nat) (st : Nat) (res : List (List Nat)), l = pre ++ (fl tks ++ rest) → st ≤ pre.length →
    ∃ st' res', stripGo l (escI false pre.length (fl tks ++ rest)) st none res = stripGo l (escI false (pre ++ fl tks).length rest) st' none res' ∧ st' ≤ (pre ++ fl tks).length ∧
      res'.flatten ++ (pre ++ fl tks).drop st' = res.flatten ++ pre.drop st ++ fl (tks.filter Tk.notq) := by
  intro tks
  induction tks with
  | nil =>
    intro _ l pre rest st res hl hst
    refine ⟨st, res, by simp [fl], by simpa [fl] using hst, by simp [fl]⟩
  | cons a tks ih =>
    intro hok l pre rest st res hl hst
    rw [List.all_cons, Bool.and_eq_true] at hok
    cases a with
    | c k =>
      have hk : k ≠ 34 ∧ k ≠ 92 := by simpa [Tk.ok] using hok.1
      obtain ⟨st', res', h1, h2, h3⟩ := ih hok.2 l (pre ++ [k]) rest st res (by rw [hl, fl_cons]; simp [Tk.fl]) (by simp; omega)
      refine ⟨st', res', ?_, ?_, ?_⟩
      · rw [fl_cons]
        show stripGo l (escI false pre.length (k :: (fl tks ++ rest))) st none res = _
        rw [esc1 _ _ _ hk.2, stripGo_cons, if_neg (by rw [S1_inj]; exact hk.1)]
        have e : (pre ++ [k]).length = pre.length + 1 := by simp
        rw [e] at h1
        rw [h1]
        simp [Tk.fl]
      · rw [fl_cons]; simpa [Tk.fl] using h2
      · rw [fl_cons]
        have e : pre ++ (Tk.fl (.c k) ++ fl tks) = pre ++ [k] ++ fl tks := by simp [Tk.fl]
        rw [e, h3, List.drop_append_of_le_length hst]
        rw [List.filter_cons_of_pos rfl, fl_cons]
        simp [Tk.fl]
    | e k =>
      obtain ⟨st', res', h1, h2, h3⟩ := ih hok.2 l (pre ++ [92, k]) rest st res (by rw [hl, fl_cons]; simp [Tk.fl]) (by simp; omega)
      refine ⟨st', res', ?_, ?_, ?_⟩
      · rw [fl_cons]
        show stripGo l (escI false pre.length (92 :: k :: (fl tks ++ rest))) st none res = _
        rw [esc2, stripGo_cons, if_neg (by rw [S_inj]; simp)]
        have e : (pre ++ [92, k]).length = pre.length + 2 := by simp
        rw [e] at h1
        rw [h1]
        simp [Tk.fl]
      · rw [fl_cons]; simpa [Tk.fl] using h2
      · rw [fl_cons]
        have e : pre ++ (Tk.fl (.e k) ++ fl tks) = pre ++ [92, k] ++ fl tks := by simp [Tk.fl]
        rw [e, h3, List.drop_append_of_le_length hst]
        rw [List.filter_cons_of_pos rfl, fl_cons]
        simp [Tk.fl]
    | q =>
      let res2 := if st = pre.length then res else res ++ [(l.drop st).take (pre.length - st)]
      have hres2 : res2.flatten = res.flatten ++ pre.drop st := by
        show (if st = pre.length then res else _).flatten = _
        by_cases h : st = pre.length
        · rw [if_pos h, h]; simp
        · rw [if_neg h, hl, List.drop_append_of_le_length hst, List.take_append_of_le_length (by simp), List.take_of_length_le (by simp)]
          simp
      obtain ⟨st', res', h1, h2, h3⟩ := ih hok.2 l (pre ++ [34, 40, 34]) rest (pre.length + 3) res2 (by rw [hl, fl_cons]; simp [Tk.fl]) (by simp)
      refine ⟨st', res', ?_, ?_, ?_⟩
      · rw [fl_cons]
        show stripGo l (escI false pre.length (34 :: 40 :: 34 :: (fl tks ++ rest))) st none res = _
        rw [esc1 _ _ _ (by decide), esc1 _ _ _ (by decide), esc1 _ _ _ (by decide), stripGo_cons, if_pos rfl]
        simp only
        rw [stripGo_cons, if_neg (by rw [S1_inj]; decide), stripGo_cons, if_pos rfl]
        simp only
        have e : (pre ++ [34, 40, 34]).length = pre.length + 3 := by simp
        rw [e] at h1
        show stripGo l (escI false (pre.length + 3) (fl tks ++ rest)) (pre.length + 3) none res2 = _
        rw [h1]
        simp [Tk.fl]
      · rw [fl_cons]; simpa [Tk.fl] using h2
      · rw [fl_cons]
        have e : pre ++ (Tk.fl .q ++ fl tks) = pre ++ [34, 40, 34] ++ fl tks := by simp [Tk.fl]
        rw [e, h3, hres2]
        have e2 : (pre ++ [34, 40, 34]).drop (pre.length + 3) = [] := List.drop_of_length_le (by simp)
        rw [e2]
        simp [Tk.notq]
theorem end_flat (res : List (List Nat)) (l : List Nat) (st : Nat) : (res ++ if st < l.length then [l.drop st] else []).flatten = res.flatten ++ l.drop st := by
  by_cases h : st < l.length
  · rw [if_pos h]; simp
  · rw [if_neg h, List.drop_of_length_le (by omega)]; simp
theorem strip_open {tks : List Tk} (h : tks.all Tk.ok = true) : stripM (fl tks ++ [34, 40]) = fl (tks.filter Tk.notq) ++ [34, 40] := by
  obtain ⟨st, res, h1, h2, h3⟩ := strip_tok tks h (fl tks ++ [34, 40]) [] [34, 40] 0 [] rfl (Nat.le_refl _)
  unfold stripM
  rw [if_pos (by simp)]
  simp only [List.length_nil, List.nil_append, List.drop_nil, List.flatten_nil, List.append_nil] at h1 h2 h3
  rw [h1, esc1 _ _ _ (by decide), esc1 _ _ _ (by decide), stripGo_cons, if_pos rfl]
  simp only
  rw [stripGo_cons, if_neg (by rw [S1_inj]; decide)]
  show (res ++ if st < (fl tks ++ [34, 40]).length then [(fl tks ++ [34, 40]).drop st] else []).flatten = _
  rw [end_flat, List.drop_append_of_le_length h2, ← List.append_assoc, h3]
theorem strip_shut {tks : List Tk} (h : tks.all Tk.ok = true) : stripM (fl tks) = fl (tks.filter Tk.notq) := by
  unfold stripM
  by_cases hq : 34 ∈ fl tks
  · rw [if_pos hq]
    obtain ⟨st, res, h1, h2, h3⟩ := strip_tok tks h (fl tks) [] [] 0 [] (by simp) (Nat.le_refl _)
    simp only [List.length_nil, List.nil_append, List.drop_nil, List.flatten_nil, List.append_nil] at h1 h2 h3
    rw [h1]
    show (res ++ if st < (fl tks).length then [(fl tks).drop st] else []).flatten = _
    rw [end_flat, h3]
  · rw [if_neg hq]
    congr 1
    symm
    rw [List.filter_eq_self]
    intro a ha
    cases a with
    | q => exact absurd (List.mem_flatMap.mpr ⟨_, ha, by simp [Tk.fl]⟩) hq
    | c k => rfl
    | e k => rfl
theorem check_tok : ∀ (tks : List Tk), tks.all Tk.ok = true → tks.all Tk.notq = true → ∀ (i : Nat) (o : Int), checkGo (escI false i (fl tks)) o = decide (dep (fl (tks.filter Tk.isC)) o = some 0) := by
  intro tks
  induction tks with
  | nil => intro _ _ i o; simp [fl, escI, checkGo, dep]
  | cons a tks ih =>
    intro h1 h2 i o
    rw [List.all_cons, Bool.and_eq_true] at h1 h2
    cases a with
    | c k =>
      have hk : k ≠ 34 ∧ k ≠ 92 := by simpa [Tk.ok] using h1.1
      rw [fl_cons]
      show checkGo (escI false i (k :: fl tks)) o = _
      rw [esc1 _ _ _ hk.2, checkGo, List.filter_cons_of_pos rfl, fl_cons]
      show _ = decide (dep (k :: fl _) o = some 0)
      rw [dep]
      simp only [S1_inj]
      by_cases e1 : k = 40
      · rw [if_pos e1, if_pos e1]; exact ih h1.2 h2.2 _ _
      · rw [if_neg e1, if_neg e1]
        by_cases e2 : k = 41
        · rw [if_pos e2, if_pos e2]
          by_cases e3 : o - 1 < 0
          · rw [if_pos e3, if_pos e3]; simp
          · rw [if_neg e3, if_neg e3]; exact ih h1.2 h2.2 _ _
        · rw [if_neg e2, if_neg e2]; exact ih h1.2 h2.2 _ _
    | e k =>
      rw [fl_cons]
      show checkGo (escI false i (92 :: k :: fl tks)) o = _
      rw [esc2, checkGo, if_neg (by rw [S_inj]; simp), if_neg (by rw [S_inj]; simp), List.filter_cons_of_neg (by simp [Tk.isC])]
      exact ih h1.2 h2.2 _ _
    | q => simp [Tk.notq] at h2
theorem check_tks {tks : List Tk} (h : tks.all Tk.ok = true) (hd : dep (fl (tks.filter Tk.isC)) 0 = some 0) : checkM (fl tks) = true := by
  unfold checkM
  rw [strip_shut h, check_tok _ ?_ ?_, List.filter_filter]
  · have e : (tks.filter fun a => a.isC && a.notq) = tks.filter Tk.isC := by
      congr 1; funext a; cases a <;> rfl
    rw [e]
    exact decide_eq_true hd
  · rw [List.all_eq_true] at h ⊢
    exact fun a ha => h a (List.mem_filter.mp ha).1
  · rw [List.all_eq_true]
    exact fun a ha => (List.mem_filter.mp ha).2

/-! the signs put together again -/
noncomputable def cat (ps : List (Nat × Str)) : List Nat := ps.flatMap fun p => p.2.cps.toList
noncomputable def cat1 (ps : List (Nat × Str)) : List Nat := ps.flatMap fun p => if p.2.length = 1 then p.2.cps.toList else []
theorem cat_all : ∀ (l : List Nat) (e : Bool) (i : Nat), cat (escI e i l) = (if e then [92] else []) ++ l := by
  intro l
  induction l with
  | nil => intro e i; cases e <;> rfl
  | cons c l ih =>
    intro e i
    cases e with
    | true =>
      show [92, c] ++ cat (escI false (i + 1) l) = _
      rw [ih]; rfl
    | false =>
      show cat (if c = 92 then escI true (i + 1) l else (i, ⟨#[c]⟩) :: escI false (i + 1) l) = _
      by_cases h : c = 92
      · rw [if_pos h, ih, h]; rfl
      · rw [if_neg h]
        show [c] ++ cat (escI false (i + 1) l) = _
        rw [ih]; rfl
theorem cat_place : ∀ (l : List Nat) (e : Bool) (i : Nat), (e = true → 1 ≤ i) → ∀ (done : List (Nat × Str)) (p : Nat × Str) (rest : List (Nat × Str)), escI e i l = done ++ p :: rest → p.1 + 1 + (if e then 1 else 0) = i + (cat (done ++ [p])).length := by
  intro l
  induction l with
  | nil =>
    intro e i hi done p rest h
    cases e with
    | false =>
      have : ([] : List (Nat × Str)) = done ++ p :: rest := h
      simp at this
    | true =>
      have h : [(i - 1, (⟨#[92]⟩ : Str))] = done ++ p :: rest := h
      cases done with
      | nil =>
        injection h with h1 h2
        subst h1
        have := hi rfl
        show i - 1 + 1 + 1 = i + 1
        omega
      | cons d done => injection h with h1 h2; simp at h2
  | cons c l ih =>
    intro e i hi done p rest h
    cases e with
    | true =>
      have h : (i, (⟨#[92, c]⟩ : Str)) :: escI false (i + 1) l = done ++ p :: rest := h
      cases done with
      | nil =>
        injection h with h1 h2
        subst h1
        rfl
      | cons d done =>
        injection h with h1 h2
        have := ih false (i + 1) (fun q => nomatch q) done p rest h2
        subst h1
        have e1 : cat ((i, (⟨#[92, c]⟩ : Str)) :: done ++ [p]) = [92, c] ++ cat (done ++ [p]) := rfl
        rw [e1, List.length_append]
        simp at this ⊢
        omega
    | false =>
      have h : (if c = 92 then escI true (i + 1) l else (i, (⟨#[c]⟩ : Str)) :: escI false (i + 1) l) = done ++ p :: rest := h
      by_cases hc : c = 92
      · rw [if_pos hc] at h
        have := ih true (i + 1) (fun _ => by omega) done p rest h
        simp at this ⊢
        omega
      · rw [if_neg hc] at h
        cases done with
        | nil =>
          injection h with h1 h2
          subst h1
          rfl
        | cons d done =>
          injection h with h1 h2
          have := ih false (i + 1) (fun q => nomatch q) done p rest h2
          subst h1
          have e1 : cat ((i, (⟨#[c]⟩ : Str)) :: done ++ [p]) = [c] ++ cat (done ++ [p]) := rfl
          rw [e1, List.length_append]
          simp at this ⊢
          omega
theorem cat1_tok : ∀ (tks : List Tk), tks.all Tk.ok = true → tks.all Tk.notq = true → ∀ (i : Nat), cat1 (escI false i (fl tks ++ [34, 40, 92])) = fl (tks.filter Tk.isC) ++ [34, 40, 92] := by
  intro tks
  induction tks with
  | nil => intro _ _ i; simp [fl, escI, cat1, Str.length]
  | cons a tks ih =>
    intro h1 h2 i
    rw [List.all_cons, Bool.and_eq_true] at h1 h2
    cases a with
    | c k =>
      have hk : k ≠ 34 ∧ k ≠ 92 := by simpa [Tk.ok] using h1.1
      rw [fl_cons]
      show cat1 (escI false i (k :: (fl tks ++ _))) = _
      rw [esc1 _ _ _ hk.2, List.filter_cons_of_pos rfl, fl_cons]
      show [k] ++ cat1 (escI false (i + 1) (fl tks ++ _)) = [k] ++ fl _ ++ _
      rw [ih h1.2 h2.2, List.append_assoc]
    | e k =>
      rw [fl_cons]
      show cat1 (escI false i (92 :: k :: (fl tks ++ _))) = _
      rw [esc2, List.filter_cons_of_neg (by simp [Tk.isC])]
      show [] ++ cat1 (escI false (i + 2) (fl tks ++ _)) = _
      rw [ih h1.2 h2.2, List.nil_append]
    | q => simp [Tk.notq] at h2

/-! the law's text in parts -/
noncomputable def tkM (t : List (List Int)) (pc : List (List Tk)) : Nat → List Int → List Tk
  | 0, way => .c 40 :: ((lastM t way).map Tk.c ++ pc.getD (way.getLastD 0).toNat [] ++ [.c 41])
  | f + 1, way => .c 40 :: ((lastM t way).map Tk.c ++ pc.getD (way.getLastD 0).toNat [] ++ ((furM way t).map (tkM t pc f)).flatten ++ [.c 41])
theorem fl_c (l : List Nat) : fl (l.map Tk.c) = l := by
  induction l with
  | nil => rfl
  | cons a l ih => rw [List.map_cons, fl_cons, ih]; rfl
theorem getD_map {α β : Type} (g : α → β) (l : List α) (i : Nat) (d : α) : (l.map g).getD i (g d) = g (l.getD i d) := by
  rw [List.getD_eq_getElem?_getD, List.getD_eq_getElem?_getD, List.getElem?_map]
  cases l[i]? <;> rfl
theorem fl_flatten (ls : List (List Tk)) : fl ls.flatten = (ls.map fl).flatten := by
  induction ls with
  | nil => rfl
  | cons a ls ih => rw [List.flatten_cons, fl_app, ih]; rfl
theorem fl_tkM (t : List (List Int)) (pc : List (List Tk)) : ∀ (f : Nat) (way : List Int), fl (tkM t pc f way) = textM t (pc.map fl) f way := by
  have hg : ∀ i, (pc.map fl).getD i [] = fl (pc.getD i []) := fun i => getD_map fl pc i []
  intro f
  induction f with
  | zero =>
    intro way
    rw [tkM, textM, fl_cons, fl_app, fl_app, fl_c, hg]; rfl
  | succ f ih =>
    intro way
    rw [tkM, textM, fl_cons, fl_app, fl_app, fl_app, fl_c, hg, fl_flatten, List.map_map]
    have : (furM way t).map (fl ∘ tkM t pc f) = (furM way t).map (textM t (pc.map fl) f) := List.map_congr_left fun v _ => ih v
    rw [this]; rfl
theorem filter_flatten {p : Tk → Bool} (ls : List (List Tk)) : ls.flatten.filter p = (ls.map fun l => l.filter p).flatten := by
  induction ls with
  | nil => rfl
  | cons a ls ih => rw [List.flatten_cons, List.filter_append, ih]; rfl
theorem filter_c {p : Tk → Bool} (h : ∀ k, p (.c k) = true) (l : List Nat) : (l.map Tk.c).filter p = l.map Tk.c := by
  rw [List.filter_eq_self]
  intro a ha
  obtain ⟨k, _, rfl⟩ := List.mem_map.mp ha
  exact h k
theorem filter_tkM {p : Tk → Bool} (h : ∀ k, p (.c k) = true) (t : List (List Int)) (pc : List (List Tk)) : ∀ (f : Nat) (way : List Int), (tkM t pc f way).filter p = tkM t (pc.map fun l => l.filter p) f way := by
  have hg : ∀ i, (pc.map fun l => l.filter p).getD i [] = (pc.getD i []).filter p := fun i => getD_map (fun l => l.filter p) pc i []
  have h1 : ∀ k, [Tk.c k].filter p = [Tk.c k] := fun k => by simp [h k]
  intro f
  induction f with
  | zero =>
    intro way
    rw [tkM, tkM, List.filter_cons_of_pos (h _), List.filter_append, List.filter_append, filter_c h, h1, hg]
  | succ f ih =>
    intro way
    rw [tkM, tkM, List.filter_cons_of_pos (h _), List.filter_append, List.filter_append, List.filter_append, filter_c h, h1, hg, filter_flatten, List.map_map]
    have : (furM way t).map ((fun l => l.filter p) ∘ tkM t pc f) = (furM way t).map (tkM t (pc.map fun l => l.filter p) f) := List.map_congr_left fun v _ => ih v
    rw [this]
theorem ok_tkM (t : List (List Int)) (pc : List (List Tk)) (hp : ∀ l ∈ pc, l.all Tk.ok = true) : ∀ (f : Nat) (way : List Int), (tkM t pc f way).all Tk.ok = true := by
  have hg : ∀ i, (pc.getD i []).all Tk.ok = true := fun i => by
    rcases getD_mem_or pc i [] with h | h
    · exact hp _ h
    · rw [h]; rfl
  have hl : ∀ way, ((lastM t way).map Tk.c).all Tk.ok = true := fun way => by
    rw [List.all_eq_true]
    intro a ha
    obtain ⟨k, hk, rfl⟩ := List.mem_map.mp ha
    obtain ⟨_, h1, h2⟩ := lastM_noBr t way
    have e1 : k ≠ 34 := fun e => h1 (e ▸ hk)
    have e2 : k ≠ 92 := fun e => h2 (e ▸ hk)
    simp [Tk.ok, e1, e2]
  intro f
  induction f with
  | zero => intro way; rw [tkM, List.all_cons, List.all_append, List.all_append, hl, hg]; rfl
  | succ f ih =>
    intro way
    rw [tkM, List.all_cons, List.all_append, List.all_append, List.all_append, hl, hg]
    have : (((furM way t).map (tkM t pc f)).flatten).all Tk.ok = true := by
      rw [List.all_eq_true]
      intro a ha
      obtain ⟨l, hl, ha⟩ := List.mem_flatten.mp ha
      obtain ⟨v, _, rfl⟩ := List.mem_map.mp hl
      exact List.all_eq_true.mp (ih v) a ha
    rw [this]; rfl
end Mine
end

noncomputable section
--# Mt10
namespace Mine
open PySem PySem.W PyProof.Rows PySem.Calls

/-- six weights -/
structure Six (w : List Int) : Prop where
  len : w.length = 6
  val : ∀ v ∈ w, v = 0 ∨ (9 ≤ v ∧ v ≤ 54)
  pos : 0 < w.sum
theorem wOf_val (c : Int) : wOf c = 0 ∨ (9 ≤ wOf c ∧ wOf c ≤ 54) := by
  unfold wOf
  split
  · right
    have h1 := Int.fmod_nonneg_of_pos (c.fdiv 2) (show (0 : Int) < 46 by decide)
    have h2 := Int.fmod_lt_of_pos (c.fdiv 2) (show (0 : Int) < 46 by decide)
    omega
  · exact .inl rfl
theorem sum_nn : ∀ (l : List Int), (∀ v ∈ l, 0 ≤ v) → 0 ≤ l.sum
  | [], _ => by simp
  | a :: l, h => by
    have := sum_nn l fun v hv => h v (.tail _ hv)
    have := h a (.head _)
    rw [List.sum_cons]; omega
theorem six_ws {cells : List Int} (h : cells.length = 6) : Six (wsM cells) := by
  unfold wsM
  split
  · rename_i h0
    have h1 := Int.fmod_nonneg_of_pos ((cells.getD 0 0).fdiv 2) (show (0 : Int) < 46 by decide)
    have h2 := Int.fmod_lt_of_pos ((cells.getD 0 0).fdiv 2) (show (0 : Int) < 46 by decide)
    generalize ((cells.getD 0 0).fdiv 2).fmod 46 = y at h1 h2 ⊢
    refine ⟨rfl, ?_, ?_⟩
    · intro v hv
      simp at hv
      rcases hv with rfl | rfl
      · right; omega
      · exact .inl rfl
    · simp; omega
  · rename_i h0
    refine ⟨by simp [h], ?_, ?_⟩
    · intro v hv
      obtain ⟨c, _, rfl⟩ := List.mem_map.mp hv
      exact wOf_val c
    · have := sum_nn (cells.map wOf) fun v hv => by
        obtain ⟨c, _, rfl⟩ := List.mem_map.mp hv
        rcases wOf_val c with h | h <;> omega
      omega
section
variable {w : List Int}
theorem six_at (h : Six w) (k : Nat) : w.getD k 0 = 0 ∨ (9 ≤ w.getD k 0 ∧ w.getD k 0 ≤ 54) := by
  rcases getD_mem_or w k 0 with q | q
  · exact h.val _ q
  · exact .inl q
theorem tab_sq (w : List Int) : Sq (tabM w) := ⟨rfl, by intro r hr; simp [tabM] at hr; rcases hr with rfl | rfl | rfl | rfl <;> rfl⟩
theorem tab_wt (h : Six w) : Wt (tabM w) := by
  intro i j
  unfold T
  have hrow : ∀ r ∈ tabM w, ∀ v ∈ r, v = 0 ∨ (9 ≤ v ∧ v ≤ 54) := by
    intro r hr v hv
    have a0 := six_at h 0; have a1 := six_at h 1; have a2 := six_at h 2; have a3 := six_at h 3; have a4 := six_at h 4; have a5 := six_at h 5
    simp only [tabM, List.mem_cons, List.not_mem_nil, or_false] at hr
    rcases hr with rfl | rfl | rfl | rfl <;>
    · simp only [List.mem_cons, List.not_mem_nil, or_false] at hv
      rcases hv with rfl | rfl | rfl | rfl <;> first | assumption | exact .inl rfl
  rcases getD_mem_or (tabM w) i.toNat [] with q | q
  · rcases getD_mem_or ((tabM w).getD i.toNat []) j.toNat 0 with p | p
    · exact hrow _ q _ p
    · exact .inl p
  · rw [q]; exact .inl rfl
theorem tab_sym (w : List Int) : Sym (tabM w) := by
  intro i j
  unfold T
  generalize i.toNat = n
  generalize j.toNat = m
  rcases n with _ | _ | _ | _ | n <;> rcases m with _ | _ | _ | _ | m <;> rfl
noncomputable def lkM (t : List (List Int)) : List Int := corners.filter fun c => decide (0 < (t.getD c.toNat []).sum)
noncomputable def startM (t : List (List Int)) (tot : Int) : Int := (lkM t).getD ((tot.fdiv 2).fmod (lkM t).length).toNat 0
theorem sum_pos : ∀ {l : List Int}, 0 < l.sum → ∃ v ∈ l, 0 < v
  | [], h => absurd h (Int.lt_irrefl 0)
  | a :: l, h => by
    by_cases ha : 0 < a
    · exact ⟨a, .head _, ha⟩
    · rw [List.sum_cons] at h
      obtain ⟨v, hv, q⟩ := sum_pos (l := l) (Int.lt_of_lt_of_le h (by rw [Int.add_comm]; exact Int.add_le_of_le_sub_left (by rw [Int.sub_self]; exact Int.not_lt.mp ha)))
      exact ⟨v, .tail _ hv, q⟩
theorem six_nn (h : Six w) (k : Nat) : 0 ≤ w.getD k 0 ∧ w.getD k 0 ≤ 54 := (six_at h k).elim (fun q => by rw [q]; decide) fun q => ⟨Int.le_trans (by decide) q.1, q.2⟩
theorem six_list (h : Six w) : w = [w.getD 0 0, w.getD 1 0, w.getD 2 0, w.getD 3 0, w.getD 4 0, w.getD 5 0] := all6 (P := fun w => w = [w.getD 0 0, w.getD 1 0, w.getD 2 0, w.getD 3 0, w.getD 4 0, w.getD 5 0]) (fun _ _ _ _ _ _ => rfl) w h.len
/-- a row's entry is a step from its corner to another -/
theorem row_T {c v : Int} (hc : c ∈ corners) (hv : v ∈ (tabM w).getD c.toNat []) (h : 0 < v) : ∃ d ∈ corners, d ≠ c ∧ v = T (tabM w) c d := by
  have z : ∀ d ∈ corners, T (tabM w) d d = 0 := by
    unfold corners
    intro d hd
    rcases List.mem_cons.mp hd with rfl | hd
    · rfl
    rcases List.mem_cons.mp hd with rfl | hd
    · rfl
    rcases List.mem_cons.mp hd with rfl | hd
    · rfl
    obtain rfl := List.mem_singleton.mp hd; rfl
  obtain ⟨i, hi, rfl⟩ := List.getElem_of_mem hv
  have h4 : ((tabM w).getD c.toNat []).length = 4 := (tab_sq w).at _ ((by decide : ∀ c ∈ corners, c.toNat < 4) c hc)
  have hT : ((tabM w).getD c.toNat [])[i] = T (tabM w) c i := by
    rw [T, Int.toNat_natCast, List.getD_eq_getElem?_getD (l := (tabM w).getD c.toNat []), List.getElem?_eq_getElem hi]; rfl
  have hic : (i : Int) ∈ corners := by
    rw [h4] at hi
    exact (by decide : ∀ i : Nat, i < 4 → (i : Int) ∈ corners) i hi
  rw [hT] at h ⊢
  exact ⟨i, hic, fun q => Int.lt_irrefl 0 (by rw [q, z c hc] at h; exact h), rfl⟩
theorem lk_ne (h : Six w) : lkM (tabM w) ≠ [] := by
  have hp := h.pos
  obtain ⟨v, hv, h0⟩ := sum_pos hp
  intro q
  unfold lkM at q
  rw [List.filter_eq_nil_iff] at q
  have q0 := q 0 (by decide)
  have q1 := q 1 (by decide)
  have q2 := q 2 (by decide)
  have n0 := (six_nn h 0).1; have n1 := (six_nn h 1).1; have n2 := (six_nn h 2).1; have n3 := (six_nn h 3).1; have n4 := (six_nn h 4).1; have n5 := (six_nn h 5).1
  rw [six_list h] at hp
  simp [tabM] at q0 q1 q2 hp n0 n1 n2 n3 n4 n5
  omega
theorem start_mem (h : Six w) (tot : Int) : startM (tabM w) tot ∈ lkM (tabM w) ∧ 0 ≤ (tot.fdiv 2).fmod (lkM (tabM w)).length ∧ (tot.fdiv 2).fmod (lkM (tabM w)).length < (lkM (tabM w)).length := by
  have hl := List.length_pos_iff.mpr (lk_ne h)
  have h1 := Int.fmod_nonneg_of_pos (tot.fdiv 2) (show (0 : Int) < (lkM (tabM w)).length by omega)
  have h2 := Int.fmod_lt_of_pos (tot.fdiv 2) (show (0 : Int) < (lkM (tabM w)).length by omega)
  refine ⟨?_, h1, h2⟩
  unfold startM
  rw [List.getD_eq_getElem?_getD, List.getElem?_eq_getElem (by omega)]
  exact List.getElem_mem _
theorem start_fur (h : Six w) {s : Int} (hs : s ∈ lkM (tabM w)) : s ∈ corners ∧ furC [s] (tabM w) ≠ [] := by
  have hm := List.mem_filter.mp hs
  obtain ⟨v, hv, h0⟩ := sum_pos (of_decide_eq_true hm.2)
  obtain ⟨d, hd, hne, e⟩ := row_T hm.1 hv h0
  refine ⟨hm.1, fun q => ?_⟩
  unfold furC at q
  rw [List.filter_eq_nil_iff] at q
  refine q d hd (Bool.and_eq_true_iff.mpr ⟨decide_eq_true (e ▸ h0), decide_eq_true fun m => hne (List.mem_singleton.mp m)⟩)

/-- the weights of the steps that do not touch the start -/
noncomputable def iR (p : Nat) : List Int := (List.range p).map fun (k : Nat) => (k : Int)
noncomputable def othersM (t : List (List Int)) (s : Int) : List Int := corners.flatMap fun p => ((iR p.toNat).filter fun q => decide (s ∉ [p, q])).map fun q => T t p q
theorem mu_three (t : List (List Int)) (hs : Sym t) {s : Int} (h : s ∈ corners) (x : Int) : mu t x (freeC [s]) = x * (x * x) + x * (othersM t s).sum := by
  simp only [corners, List.mem_cons, List.not_mem_nil, or_false] at h
  have h10 := hs 1 0; have h20 := hs 2 0; have h21 := hs 2 1; have h30 := hs 3 0; have h31 := hs 3 1; have h32 := hs 3 2
  rcases h with rfl | rfl | rfl | rfl
  · have e1 : freeC [0] = [1, 2, 3] := by decide
    have e2 : othersM t 0 = [T t 2 1, T t 3 1, T t 3 2] := rfl
    rw [e1, e2]; simp only [mu_3, List.sum_cons, List.sum_nil]; grind
  · have e1 : freeC [1] = [0, 2, 3] := by decide
    have e2 : othersM t 1 = [T t 2 0, T t 3 0, T t 3 2] := rfl
    rw [e1, e2]; simp only [mu_3, List.sum_cons, List.sum_nil]; grind
  · have e1 : freeC [2] = [0, 1, 3] := by decide
    have e2 : othersM t 2 = [T t 1 0, T t 3 0, T t 3 1] := rfl
    rw [e1, e2]; simp only [mu_3, List.sum_cons, List.sum_nil]; grind
  · have e1 : freeC [3] = [0, 1, 2] := by decide
    have e2 : othersM t 3 = [T t 1 0, T t 2 0, T t 2 1] := rfl
    rw [e1, e2]; simp only [mu_3, List.sum_cons, List.sum_nil]; grind
noncomputable def edgesM (t : List (List Int)) : Int := ((t.map List.sum).sum).fdiv 2
noncomputable def pairsM (t : List (List Int)) : Int := T t 0 1 * T t 2 3 + T t 0 2 * T t 1 3 + T t 0 3 * T t 1 2
theorem mu_all {t : List (List Int)} (hs : Sym t) {s : Int} (h : s ∈ corners) (x : Int) : mu t x (s :: freeC [s]) = x * x * (x * x) + x * x * (T t 0 1 + T t 0 2 + T t 1 2 + T t 0 3 + T t 1 3 + T t 2 3) + pairsM t := by
  have h10 := hs 1 0; have h20 := hs 2 0; have h21 := hs 2 1; have h30 := hs 3 0; have h31 := hs 3 1; have h32 := hs 3 2
  simp only [corners, List.mem_cons, List.not_mem_nil, or_false] at h
  unfold pairsM
  rcases h with rfl | rfl | rfl | rfl
  · rw [show freeC [0] = [1, 2, 3] by decide]; simp only [mu_4]; grind
  · rw [show freeC [1] = [0, 2, 3] by decide]; simp only [mu_4]; grind
  · rw [show freeC [2] = [0, 1, 3] by decide]; simp only [mu_4]; grind
  · rw [show freeC [3] = [0, 1, 2] by decide]; simp only [mu_4]; grind
theorem mul54 {p q : Int} (hp : 0 ≤ p ∧ p ≤ 54) (hq : 0 ≤ q ∧ q ≤ 54) : 0 ≤ p * q ∧ p * q ≤ 2916 := ⟨Int.mul_nonneg hp.1 hq.1, Int.mul_le_mul hp.2 hq.2 hq.1 (by decide)⟩
theorem add3 {a b c k : Int} (ha : 0 ≤ a ∧ a ≤ k) (hb : 0 ≤ b ∧ b ≤ k) (hc : 0 ≤ c ∧ c ≤ k) : 0 ≤ a + b + c ∧ a + b + c ≤ k + k + k := ⟨Int.add_nonneg (Int.add_nonneg ha.1 hb.1) hc.1, Int.add_le_add (Int.add_le_add ha.2 hb.2) hc.2⟩
theorem sum3 {a b c k : Int} (ha : 0 ≤ a ∧ a ≤ k) (hb : 0 ≤ b ∧ b ≤ k) (hc : 0 ≤ c ∧ c ≤ k) : 0 ≤ [a, b, c].sum ∧ [a, b, c].sum ≤ k + k + k := by
  rw [show [a, b, c].sum = a + b + c from (congrArg (a + ·) (congrArg (b + ·) (Int.add_zero c))).trans (Int.add_assoc a b c).symm]
  exact add3 ha hb hc
theorem tab_edges (w : List Int) : edgesM (tabM w) = w.getD 0 0 + w.getD 1 0 + w.getD 2 0 + w.getD 3 0 + w.getD 4 0 + w.getD 5 0 := by
  have e : ((tabM w).map List.sum).sum = 2 * (w.getD 0 0 + w.getD 1 0 + w.getD 2 0 + w.getD 3 0 + w.getD 4 0 + w.getD 5 0) := by
    unfold tabM
    generalize w.getD 0 0 = a
    generalize w.getD 1 0 = b
    generalize w.getD 2 0 = c
    generalize w.getD 3 0 = d
    generalize w.getD 4 0 = e
    generalize w.getD 5 0 = f
    show (0 + (a + (b + (d + 0)))) + ((a + (0 + (c + (e + 0)))) + ((b + (c + (0 + (f + 0)))) + ((d + (e + (f + (0 + 0)))) + 0))) = _
    omega
  rw [edgesM, e, Int.mul_fdiv_cancel_left _ (by decide)]
theorem mu_four (h : Six w) {s : Int} (hc : s ∈ corners) (x : Int) : mu (tabM w) x (s :: freeC [s]) = x * x * (x * x) + x * x * edgesM (tabM w) + pairsM (tabM w) ∧ 0 ≤ edgesM (tabM w) ∧ edgesM (tabM w) ≤ 324 ∧ 0 ≤ pairsM (tabM w) ∧ pairsM (tabM w) ≤ 8748 ∧
    0 ≤ (othersM (tabM w) s).sum ∧ (othersM (tabM w) s).sum ≤ 162 := by
  have n := six_nn h
  have hs := tab_sym w
  have hE := tab_edges w
  have b1 := add3 (n 0) (n 1) (n 2)
  have b2 := add3 (n 3) (n 4) (n 5)
  have b3 := add3 (mul54 (n 0) (n 5)) (mul54 (n 1) (n 4)) (mul54 (n 3) (n 2))
  have hE2 : edgesM (tabM w) = (w.getD 0 0 + w.getD 1 0 + w.getD 2 0) + (w.getD 3 0 + w.getD 4 0 + w.getD 5 0) := by rw [hE, Int.add_assoc (_ + _ + _ + _), Int.add_assoc (_ + _ + _), ← Int.add_assoc (w.getD 3 0)]
  refine ⟨?_, hE2 ▸ Int.add_nonneg b1.1 b2.1, hE2 ▸ Int.add_le_add b1.2 b2.2, b3.1, b3.2, ?_⟩
  · rw [mu_all hs hc, hE]; rfl
  · rcases List.mem_cons.mp hc with rfl | hc
    · exact sum3 (n 2) (n 4) (n 5)
    rcases List.mem_cons.mp hc with rfl | hc
    · exact sum3 (n 1) (n 3) (n 5)
    rcases List.mem_cons.mp hc with rfl | hc
    · exact sum3 (n 0) (n 3) (n 4)
    obtain rfl := List.mem_singleton.mp hc
    exact sum3 (n 0) (n 1) (n 2)
end
/-! the figures are positive -/
theorem mul_ge1 {a b : Int} (ha : 1 ≤ a) (hb : 0 ≤ b) : b ≤ a * b := by
  have := Int.mul_le_mul_of_nonneg_right ha hb
  omega
theorem step_pos {x : Int} {p um : Int × Int} {n : Int} (hx : 1 ≤ x) (hn : 0 ≤ n) (h1 : 1 ≤ um.1) (h2 : 0 ≤ um.2) (p1 : 1 ≤ p.1) (p2 : 0 ≤ p.2) : x ≤ (kidStep x p um n).1 ∧ 1 ≤ (kidStep x p um n).1 ∧ 0 ≤ (kidStep x p um n).2 := by
  have g0 : x ≤ x * um.1 := by
    have := Int.mul_le_mul_of_nonneg_left h1 (show 0 ≤ x by omega)
    omega
  have g : x ≤ x * um.1 + um.2 := by omega
  have k1 : x ≤ (kidStep x p um n).1 := by
    unfold kidStep
    simp only
    have := mul_ge1 p1 (show 0 ≤ x * um.1 + um.2 by omega)
    omega
  refine ⟨k1, by omega, ?_⟩
  unfold kidStep
  simp only
  have a1 := Int.mul_nonneg p2 (show 0 ≤ x * um.1 + um.2 by omega)
  have a2 := Int.mul_nonneg (Int.mul_nonneg hn (show 0 ≤ um.1 by omega)) (show 0 ≤ p.1 by omega)
  omega
theorem wt_nn {t : List (List Int)} (hw : Wt t) (c : List Int) : 0 ≤ lastW t c := by
  unfold lastW
  rcases hw (c.getD (c.length - 2) 0) (c.getLastD 0) with h | h <;> omega
theorem fold_pos {t : List (List Int)} {x : Int} {f : Nat} (hx : 1 ≤ x) (hw : Wt t) (hf : ∀ c, 1 ≤ (bfM t x f c).1 ∧ 0 ≤ (bfM t x f c).2) : ∀ (cs : List (List Int)) (p : Int × Int), 1 ≤ p.1 → 0 ≤ p.2 →
    1 ≤ (cs.foldl (fun p c => kidStep x p (bfM t x f c) (lastW t c)) p).1 ∧ 0 ≤ (cs.foldl (fun p c => kidStep x p (bfM t x f c) (lastW t c)) p).2 ∧ (cs ≠ [] ∨ x ≤ p.1 → x ≤ (cs.foldl (fun p c => kidStep x p (bfM t x f c) (lastW t c)) p).1)
  | [], p, h1, h2 => ⟨h1, h2, fun q => by rcases q with q | q; exact absurd rfl q; exact q⟩
  | c :: cs, p, h1, h2 => by
    obtain ⟨s1, s2, s3⟩ := step_pos (n := lastW t c) hx (wt_nn hw c) (hf c).1 (hf c).2 h1 h2
    obtain ⟨r1, r2, r3⟩ := fold_pos hx hw hf cs _ s2 s3
    exact ⟨r1, r2, fun _ => r3 (.inr s1)⟩
theorem bfM_pos {t : List (List Int)} {x : Int} (hx : 1 ≤ x) (hw : Wt t) : ∀ (f : Nat) (way : List Int), 1 ≤ (bfM t x f way).1 ∧ 0 ≤ (bfM t x f way).2 ∧ (0 < f → furC way t ≠ [] → x ≤ (bfM t x f way).1) := by
  intro f
  induction f with
  | zero => intro way; exact ⟨Int.le_refl _, Int.le_refl _, fun h => absurd h (by decide)⟩
  | succ f ih =>
    intro way
    obtain ⟨r1, r2, r3⟩ := fold_pos hx hw (fun c => ⟨(ih c).1, (ih c).2.1⟩) (furM way t) (1, 0) (Int.le_refl _) (Int.le_refl _)
    refine ⟨r1, r2, fun _ hne => r3 (.inl fun q => hne ?_)⟩
    unfold furM at q
    exact List.map_eq_nil_iff.mp q
end Mine
end

noncomputable section
--# Mt11
namespace Mine
open PySem PySem.W PyProof.Rows PySem.Calls

theorem digs_dval (n : Nat) : ∀ l : List Nat, (∀ x ∈ l, x < 2 ^ n) → digs n l.length (dval n l) = l
  | [], _ => rfl
  | d :: l, h => by
    have h0 := h d (.head _)
    rw [dval, List.length_cons, digs, Nat.add_mul_mod_self_left, Nat.mod_eq_of_lt h0]
    have : (d + 2 ^ n * dval n l) / 2 ^ n = dval n l := by
      rw [Nat.add_mul_div_left _ _ (Nat.two_pow_pos n), Nat.div_eq_of_lt h0, Nat.zero_add]
    rw [this, digs_dval n l fun x hx => h x (.tail _ hx)]
theorem kM_dval {n : Nat} (hn : 1 ≤ n) {l : List Nat} {d : Nat} (hd : 1 ≤ d) (h : ∀ x ∈ l ++ [d], x < 2 ^ n) : kM n (dval n (l ++ [d])) = l.length + 1 := by
  have h1 := dval_lt n (l ++ [d]) h
  have h2 : 2 ^ (n * l.length) ≤ dval n (l ++ [d]) := by
    rw [dval_app, dval, dval]
    have : 2 ^ (n * l.length) * 1 ≤ 2 ^ (n * l.length) * d := Nat.mul_le_mul_left _ hd
    simp
    omega
  rw [List.length_append] at h1
  have b1 := bits_nat h1
  have b2 : n * l.length < bits ((dval n (l ++ [d]) : Nat) : Int) := by
    rw [Nat.lt_iff_add_one_le]
    by_cases q : n * l.length + 1 ≤ bits ((dval n (l ++ [d]) : Nat) : Int)
    · exact q
    · exfalso
      have := intBits_le_iff.mp (show bits ((dval n (l ++ [d]) : Nat) : Int) ≤ n * l.length by omega)
      simp only [Int.natAbs_natCast] at this
      omega
  unfold kM
  generalize bits ((dval n (l ++ [d]) : Nat) : Int) = B at b1 b2 ⊢
  rw [List.length_singleton, Nat.mul_add, Nat.mul_one] at b1
  refine (Nat.div_eq_iff (by omega)).mpr ⟨?_, ?_⟩
  · rw [Nat.add_mul, Nat.one_mul, Nat.mul_comm]; omega
  · rw [Nat.add_mul, Nat.one_mul, Nat.mul_comm]; omega
theorem div_fin {turn side B rest M : Int} (hB : 0 < B) (h0 : 0 ≤ rest) (h1 : rest < B) (hs : side = 1 ∨ side = -1) :
    (turn * M * B + side * rest).fdiv (side * B) = side * turn * M ∧ (turn * M * B + side * rest).fmod (side * B) = side * rest := by
  have pos : ∀ q : Int, (q * B + rest).fdiv B = q ∧ (q * B + rest).fmod B = rest := fun q => by
    have e : (q * B + rest).fdiv B = q := by
      rw [Int.fdiv_eq_ediv_of_nonneg _ (Int.le_of_lt hB), Int.add_comm, Int.add_mul_ediv_right _ _ (by omega), Int.ediv_eq_zero_of_lt h0 h1]; omega
    refine ⟨e, ?_⟩
    have := Int.mul_fdiv_add_fmod (q * B + rest) B
    rw [e, Int.mul_comm] at this
    omega
  rcases hs with rfl | rfl
  · have := pos (turn * M)
    rw [Int.one_mul, Int.one_mul, Int.one_mul]
    exact this
  · have h := (pos (-(turn * M))).1
    have e : (turn * M * B + -1 * rest).fdiv (-1 * B) = -1 * turn * M := by
      have : (turn * M * B + -1 * rest) = -(-(turn * M) * B + rest) := by grind
      rw [this, show (-1 * B : Int) = -B by omega, Int.neg_fdiv_neg, h]; grind
    refine ⟨e, ?_⟩
    have := Int.mul_fdiv_add_fmod (turn * M * B + -1 * rest) (-1 * B)
    rw [e] at this
    grind
theorem small_mulA {a b : Int} (h : a.natAbs ≤ 1000000) : IntMulOk a b := by
  refine IntMulOk.of_left ?_
  exact intBits_le_iff.mpr (by omega)
theorem Bd3 {X : Nat} (hX : X ≤ 1300) : Bd X 3 ≤ 120000 := by simp [Bd]; omega
theorem bits_pow (W : Nat) : bits ((2 : Int) ^ W) ≤ W + 1 := by
  refine intBits_le_iff.mpr ?_
  have : ((2 : Int) ^ W).natAbs = 2 ^ W := by rw [Int.natAbs_pow]; rfl
  rw [this, Nat.pow_succ]
  have := Nat.two_pow_pos W
  omega
theorem dv_ok {B M turn side rest : Int} {W : Nat} (hB : (2 : Int) ^ W ≤ B) (hBb : bits B ≤ 120000) (hM0 : 0 ≤ M) (hM : M < 2 ^ (5 * W)) (h0 : 0 ≤ rest) (h1 : rest < B) (hs : side = 1 ∨ side = -1) (ht : turn = 1 ∨ turn = -1) : DvOk (turn * M * B + side * rest) (side * B) := by
  have hp : (0 : Int) < 2 ^ W := Int.pow_pos (by decide)
  have hB0 : 0 < B := by omega
  have bs : bits (side * B) = bits B := by
    rcases hs with rfl | rfl
    · rw [Int.one_mul]
    · rw [show (-1 * B : Int) = -B by omega, bits_neg]
  have hBW : W + 1 ≤ bits B := by
    by_cases q : W + 1 ≤ bits B
    · exact q
    · exfalso
      have := intBits_le_iff.mp (show bits B ≤ W by omega)
      have e : ((2 : Int) ^ W) = ((2 ^ W : Nat) : Int) := by simp
      rw [e] at hB
      omega
  refine ⟨by rcases hs with rfl | rfl <;> omega, by rw [bs]; omega, ?_⟩
  rw [bs]
  have hab : (turn * M * B + side * rest).natAbs < 2 ^ (5 * W + 1 + bits B) := by
    have hMB : 0 ≤ M * B := Int.mul_nonneg hM0 (by omega)
    have h3 : (turn * M * B + side * rest).natAbs ≤ (M * B + B).natAbs := by
      rcases hs with rfl | rfl <;> rcases ht with rfl | rfl
      · rw [Int.one_mul, Int.one_mul]; omega
      · rw [show (-1 * M * B : Int) = -(M * B) by grind, Int.one_mul]; omega
      · rw [Int.one_mul]; omega
      · rw [show (-1 * M * B : Int) = -(M * B) by grind]; omega
    refine Nat.lt_of_le_of_lt h3 ?_
    have hM1 : bits (M + 1) ≤ 5 * W + 1 := by
      refine intBits_le_iff.mpr ?_
      have e : ((2 : Int) ^ (5 * W)) = ((2 ^ (5 * W) : Nat) : Int) := by simp
      rw [e] at hM
      rw [Nat.pow_succ]
      omega
    have := bits_mul hM1 (Nat.le_refl (bits B))
    have := intBits_le_iff.mp this
    rw [Int.add_mul, Int.one_mul] at this
    exact this
  have hb := bits_nat hab
  unfold kM
  refine Nat.le_of_lt_succ (Nat.div_lt_of_lt_mul ?_)
  generalize bits B = b at *
  generalize bits (((turn * M * B + side * rest).natAbs : Nat) : Int) = k at *
  omega
theorem fig_dval (W P E : Nat) : ((dval W [P, 0, E, 0, 1] : Nat) : Int) = (2 : Int) ^ W * 2 ^ W * (2 ^ W * 2 ^ W) + 2 ^ W * 2 ^ W * E + P := by
  simp only [dval, Int.natCast_add, Int.natCast_mul, Int.natCast_pow, Int.cast_ofNat_Int, Int.natCast_zero, Int.natCast_one]
  show (P : Int) + 2 ^ W * (0 + 2 ^ W * (E + 2 ^ W * (0 + 2 ^ W * (1 + 2 ^ W * 0)))) = _
  generalize (2 : Int) ^ W = X
  grind
theorem net_dval (W s : Nat) : ((dval W [0, s, 0, 1] : Nat) : Int) = (2 : Int) ^ W * (2 ^ W * 2 ^ W) + 2 ^ W * s := by
  simp only [dval, Int.natCast_add, Int.natCast_mul, Int.natCast_pow, Int.cast_ofNat_Int, Int.natCast_zero, Int.natCast_one]
  show (0 : Int) + 2 ^ W * (s + 2 ^ W * (0 + 2 ^ W * (1 + 2 ^ W * 0))) = _
  generalize (2 : Int) ^ W = X
  grind
/-- the ones' complement, digit by digit -/
theorem dval_lack (n : Nat) : ∀ l : List Nat, (∀ x ∈ l, x < 2 ^ n) → dval n (l.map fun x => 2 ^ n - 1 - x) + dval n l + 1 = 2 ^ (n * l.length)
  | [], _ => by simp [dval]
  | d :: l, h => by
    have h0 := h d (.head _)
    have ih := dval_lack n l fun x hx => h x (.tail _ hx)
    rw [List.map_cons, dval, dval, List.length_cons, Nat.mul_succ, Nat.pow_add, ← ih]
    rw [Nat.add_mul, Nat.add_mul, Nat.one_mul, Nat.mul_comm (2 ^ n), Nat.mul_comm (2 ^ n)]
    omega
end Mine
end

noncomputable section
--# Wl0
namespace Mine
open PySem PySem.W PyProof.Rows PySem.Calls

theorem pick_map {α : Type} (g : α → D) (l : List α) (lo hi st : Option Int) : ∃ l' : List α, pickD (l.map g) lo hi st = l'.map g := by
  unfold pickD
  rw [List.length_map]
  generalize sliceRange _ _ _ = is
  induction is with
  | nil => exact ⟨[], rfl⟩
  | cons i is ih =>
    obtain ⟨l', h⟩ := ih
    cases hi : l[i]? with
    | none => exact ⟨l', by rw [List.filterMap_cons_none (by simp [hi])]; exact h⟩
    | some a => exact ⟨a :: l', by rw [List.filterMap_cons_some (b := g a) (by simp [hi]), h]; rfl⟩
noncomputable def pkI (ns : List Int) (k : Int) : List Int := Classical.choose (pick_map D.int ns (some k) none (some 6))
theorem pkI_eq (ns : List Int) (k : Int) : pickD (dints ns) (some k) none (some 6) = dints (pkI ns k) := Classical.choose_spec (pick_map D.int ns (some k) none (some 6))
theorem range_plain {a b : Nat} (hab : a ≤ b) : sliceRange (a : Int) (b : Int) 1 = (List.range (b - a)).map (fun k => a + k) := by
  simp only [sliceRange, show ((1 : Int) > 0) = True from by simp, if_true]
  by_cases hlt : (a : Int) < b
  · have e3 : (((b : Int) - a + 1 - 1) / 1).toNat = b - a := by first | omega | (simp; done) | (simp; omega)
    simp only [hlt, if_true, e3]
    refine List.map_congr_left fun k _ => ?_
    omega
  · have : b - a = 0 := by omega
    simp [hlt, this]
theorem pick_from {ds : List D} (k : Nat) : pickD ds (some (k : Int)) none none = ds.drop k := by
  unfold pickD
  have h1 : ¬ ((k : Int) < 0) := by omega
  have e1 : (max (0 : Int) (min (k : Int) (ds.length : Int))) = ((min k ds.length : Nat) : Int) := by omega
  simp only [sliceBounds, Option.getD_none, show ((1 : Int) > 0) = True from by simp, if_true, h1, if_false, e1]
  rw [range_plain (by omega), StrLaws.picks ds _ _ (by omega), List.take_of_length_le (by simp)]
  by_cases hk : k ≤ ds.length
  · rw [Nat.min_eq_left hk]
  · rw [Nat.min_eq_right (by omega), List.drop_of_length_le (Nat.le_refl _), List.drop_of_length_le (by omega)]
theorem pick_to {ds : List D} (k : Nat) : pickD ds none (some (k : Int)) none = ds.take k := by
  unfold pickD
  have h1 : ¬ ((k : Int) < 0) := by omega
  have e1 : (max (0 : Int) (min (k : Int) (ds.length : Int))) = ((min k ds.length : Nat) : Int) := by omega
  simp only [sliceBounds, Option.getD_none, show ((1 : Int) > 0) = True from by simp, if_true, h1, if_false, e1]
  have := range_plain (a := 0) (b := min k ds.length) (by omega)
  rw [show ((0 : Nat) : Int) = 0 from rfl] at this
  rw [this, StrLaws.picks ds _ _ (by omega), List.drop_zero, Nat.sub_zero]
  by_cases hk : k ≤ ds.length
  · rw [Nat.min_eq_left hk]
  · rw [Nat.min_eq_right (by omega), List.take_of_length_le (Nat.le_refl _), List.take_of_length_le (by omega)]
/-- an int's rest, as a number from nought on -/
theorem fmod_nat (a : Int) {m : Nat} (h : 0 < m) : ∃ k : Nat, k < m ∧ a.fmod m = k := by
  have h1 := Int.fmod_nonneg_of_pos a (show (0 : Int) < m by omega)
  have h2 := Int.fmod_lt_of_pos a (show (0 : Int) < m by omega)
  exact ⟨(a.fmod m).toNat, by omega, by omega⟩
end Mine
end

noncomputable section
--# Wl0b
namespace Mine
open PySem PySem.W PyProof.Rows PySem.Calls

theorem ways_good {t : List (List Int)} (hw : Wt t) : ∀ (f : Nat) (way : List Int), Good t way → freeN way ≤ f → way.length + f ≤ 4 → ∀ v ∈ waysM t f way, Good t v := by
  intro f
  induction f with
  | zero => intro way g _ _ v hv; simp [waysM] at hv; subst hv; exact g
  | succ f ih =>
    intro way g hfr hl v hv
    rcases List.mem_cons.mp hv with rfl | hv
    · exact g
    · obtain ⟨c, hc, hv⟩ := List.mem_flatMap.mp hv
      have g2 := g.fur hw (by omega) c hc
      obtain ⟨_, hcl, d, hd, rfl⟩ := furM_ok g.ok c hc
      have := freeN_fur hd
      exact ih _ g2 (by omega) (by omega) v hv
/-- the white ahead of a line -/
noncomputable def white (row : List Int) (tl : Nat) : List Nat := (row.flatMap fun r => List.replicate r.toNat 32 ++ [9]) ++ List.replicate tl 32
theorem lineOf_white (row : List Int) (tl : Nat) (rest : List Nat) : lineOf row tl rest = white row tl ++ rest := by simp [lineOf, white]
theorem white_len : ∀ (row : List Int), Row row → ∀ tl : Nat, ((white row tl).length : Int) = rowN row + tl
  | [], _, tl => (congrArg Int.ofNat (List.length_replicate (n := tl) (a := 32))).trans (Int.zero_add _).symm
  | r :: row, h, tl => by
    have e := white_len row (fun x hx => h x (.tail _ hx)) tl
    rw [white, List.length_append] at e
    rw [white, List.flatMap_cons, List.length_append, List.length_append, List.length_append, List.length_replicate, List.length_singleton, rowN_cons, Nat.add_assoc, Int.natCast_add, e, Int.natCast_add, Int.toNat_of_nonneg (h r (.head _)).1, ← Int.add_assoc]
    rfl
theorem rowN_le : ∀ {row : List Int}, Row row → rowN row ≤ 4 * row.length
  | [], _ => Int.le_refl 0
  | r :: row, h => by
    rw [rowN_cons, List.length_cons, Int.natCast_succ, Int.mul_add, Int.add_comm]
    exact Int.add_le_add (rowN_le fun x hx => h x (.tail _ hx)) (Int.add_le_add_right (h r (.head _)).2 1)
theorem white_le {row : List Int} (h : Row row) (tl : Nat) : (white row tl).length ≤ 4 * row.length + tl := Int.ofNat_le.mp (by
  rw [white_len row h]; exact Int.add_le_add_right (rowN_le h) _)
theorem ld_n {row : List Int} (hr : Row row) (tl : Nat) {rest : List Nat} (hb : Beh rest) : (ldM row tl rest).n = ((white row tl).length : Nat) := by
  rw [(ld_eq hr hb).2.2.1, white_len row hr, (lev_at row tl).1, rowN_lev row hr]; omega
noncomputable def numV (t : List (List Int)) (v : List Int) : Int := if v.length ≤ 1 then 0 else lastW t v
theorem sign_lead {t : List (List Int)} (hw : Wt t) {v : List Int} (g : Good t v) (wh : List Nat) : (signAtM (wh ++ (lastM t v ++ [120, 32, 9])) wh.length).1 = numV t v := by
  unfold numV
  by_cases h : v.length ≤ 1
  · rw [if_pos h]
    have e : lastM t v = [] := by unfold lastM; rw [if_pos h]
    rw [e, sign_none (rest := [9]) (by rw [List.drop_left]; rfl)]
  · rw [if_neg h]
    obtain ⟨i, hi, h1, h2⟩ := last_i hw g (by omega)
    rw [h2, sign_at hi (c := 120) (rest := [32, 9]) (.inr (.inr rfl)) (by rw [List.drop_left]), h1]
theorem range_getD {α β : Type} (l : List α) (d : α) (g : α → β) : (List.range l.length).map (fun k => g (l.getD k d)) = l.map g := by
  apply List.ext_getElem
  · simp
  · intro i h1 h2
    simp at h1 h2
    simp [List.getD_eq_getElem?_getD, List.getElem?_eq_getElem h1]
theorem arD_range : ∀ (n m : Nat), arD (m : Int) 1 n = (List.range' m n).map fun (k : Nat) => D.int (k : Int)
  | 0, m => rfl
  | n + 1, m => by
    rw [arD, List.range'_succ, List.map_cons]
    have := arD_range n (m + 1)
    rw [← this]; rfl
theorem arD_zero (n : Nat) : arD 0 1 n = (List.range n).map fun (k : Nat) => D.int (k : Int) := by
  have := arD_range n 0
  rw [List.range_eq_range']; exact this
theorem k146 {w : Wd} : KeepOk w (.fn 146) := ⟨fun s G vf i r => by
  cases r
  obtain ⟨k, _, l⟩ := looks_keep (M := MM w) (f := .ref 146) (show keepIn (KK w.w.params) (.ref 146) = true by kernel_rfl) i.K
  exact ⟨k, l⟩⟩
noncomputable def lineV (t : List (List Int)) (rv : Int → Int) (tl : Nat) (v : List Int) : List Nat := lineOf (rowOf rv v) tl (lastM t v ++ [120, 32, 9])
section
variable {w : Wd} {n : Nat} {sc : Scope} {κ : Env2} {ρ : Rho}
theorem mul_c {k : Int} {Q : D → Prop} (h0 : 0 ≤ k) (h1 : k ≤ 1000) (q : Q (.str (S (List.replicate k.toNat 32)))) : Op2 w n (binaryOp .Mult) (.str " ") (.int k) Q := by
  have e : (" " : Str) = S [32] := by decide +kernel
  rw [e]
  refine mul_s h1 (by omega) (by decide) ?_
  rw [S_mul]
  have : (List.replicate k.toNat [32]).flatten = List.replicate k.toNat 32 := by
    generalize k.toNat = m
    induction m with
    | zero => rfl
    | succ m ih => rw [List.replicate_succ, List.flatten_cons, ih]; rfl
  rw [this]; exact q
theorem item_g {α : Type} {g : α → D} {value slice : Expr} {l : List α} {i : Nat} {x : α} {Q : D → Prop} (hx : l[i]? = some x) (hf : i < 1000000) (q : Q (g x))
    (hs : ∀ o i, subscripted slice false o i = operate [o, i] (getItem o i) := by intro _ _; rfl) : Op2 w n (subscriptTail value slice) (.list (l.map g)) (.int i) Q := by
  refine item_l (j := 0) (by omega) (by omega) (d := g x) ?_ q hs
  simp [List.getElem?_map, hx]
end
end Mine
end

noncomputable section
--# Wl0c
namespace Mine
open PySem PySem.W PyProof.Rows PySem.Calls

noncomputable def optL : List (List Nat) := [[], [92, 41], [34, 40, 34], [92, 34], [92, 92]]
noncomputable def optT : List (List Tk) := [[], [.e 41], [.q], [.e 34], [.e 92]]
noncomputable def cut (p : List Nat) : List Nat := if p.length < 3 then p else []
noncomputable def pcs (cells : List Int) : List (List Nat) := (cells.take 4).map fun c => optL.getD ((c.fdiv 368).fmod 5).toNat []
noncomputable def pcT (cells : List Int) : List (List Tk) := (cells.take 4).map fun c => optT.getD ((c.fdiv 368).fmod 5).toNat []
theorem opt_mem (i : Nat) : optT.getD i [] ∈ optT := by
  rcases getD_mem_or optT i [] with h | h
  · exact h
  · rw [h]; exact .head _
theorem optL_mem (i : Nat) : optL.getD i [] ∈ optL := by
  rcases getD_mem_or optL i [] with h | h
  · exact h
  · rw [h]; exact .head _
theorem pcs_T (cells : List Int) : (pcT cells).map fl = pcs cells := by
  unfold pcT pcs
  rw [List.map_map]
  refine List.map_congr_left fun c _ => ?_
  exact (getD_map fl optT _ []).symm
theorem dress {cells : List Int} (h : cells.length = 6) (t : List (List Int)) (s : Int) : ∃ Dt : List Tk, Dt.all Tk.ok = true ∧ fl Dt = textM t (pcs cells) 3 [s] ∧ fl (Dt.filter Tk.notq) = textM t ((pcs cells).map cut) 3 [s] ∧ fl (Dt.filter Tk.isC) = textM t pc0 3 [s] := by
  refine ⟨tkM t (pcT cells) 3 [s], ok_tkM t _ ?_ 3 [s], ?_, ?_, ?_⟩
  · intro l hl
    obtain ⟨c, _, rfl⟩ := List.mem_map.mp hl
    have := opt_mem ((c.fdiv 368).fmod 5).toNat
    generalize optT.getD ((c.fdiv 368).fmod 5).toNat [] = o at this
    simp only [optT, List.mem_cons, List.not_mem_nil, or_false] at this
    rcases this with rfl | rfl | rfl | rfl | rfl <;> rfl
  · rw [fl_tkM, pcs_T]
  · rw [filter_tkM (fun k => rfl), fl_tkM, List.map_map, ← pcs_T, List.map_map]
    congr 1
    refine List.map_congr_left fun l hl => ?_
    obtain ⟨c, _, rfl⟩ := List.mem_map.mp hl
    have := opt_mem ((c.fdiv 368).fmod 5).toNat
    generalize optT.getD ((c.fdiv 368).fmod 5).toNat [] = o at this
    simp only [optT, List.mem_cons, List.not_mem_nil, or_false] at this
    rcases this with rfl | rfl | rfl | rfl | rfl <;> rfl
  · rw [filter_tkM (fun k => rfl), fl_tkM, List.map_map]
    congr 1
    have e : (pcT cells).map (fl ∘ fun l => l.filter Tk.isC) = (pcT cells).map fun _ => ([] : List Nat) := by
      refine List.map_congr_left fun l hl => ?_
      obtain ⟨c, _, rfl⟩ := List.mem_map.mp hl
      have := opt_mem ((c.fdiv 368).fmod 5).toNat
      generalize optT.getD ((c.fdiv 368).fmod 5).toNat [] = o at this
      simp only [optT, List.mem_cons, List.not_mem_nil, or_false] at this
      rcases this with rfl | rfl | rfl | rfl | rfl <;> rfl
    rw [e]
    match cells, h with
    | [_, _, _, _, _, _], _ => rfl
theorem pcs_facts {cells : List Int} (h : cells.length = 6) : (pcs cells).length = 4 ∧ (∀ p ∈ pcs cells, p.length ≤ 3) ∧ ((pcs cells).map cut).length = 4 ∧ (∀ p ∈ (pcs cells).map cut, p.length ≤ 3) := by
  have h1 : (pcs cells).length = 4 := by simp [pcs, h]
  have h2 : ∀ p ∈ pcs cells, p.length ≤ 3 := fun p hp => by
    obtain ⟨c, _, rfl⟩ := List.mem_map.mp hp
    have := optL_mem ((c.fdiv 368).fmod 5).toNat
    generalize optL.getD ((c.fdiv 368).fmod 5).toNat [] = o at this
    simp only [optL, List.mem_cons, List.not_mem_nil, or_false] at this
    rcases this with rfl | rfl | rfl | rfl | rfl <;> decide
  refine ⟨h1, h2, by rw [List.length_map, h1], fun p hp => ?_⟩
  obtain ⟨q, hq, rfl⟩ := List.mem_map.mp hp
  unfold cut
  split
  · exact h2 q hq
  · decide
section
variable {w : Wd} {n : Nat} {sc : Scope} {κ : Env2} {ρ : Rho}
theorem pow_n {W : Nat} {Q : D → Prop} (h : W ≤ 10000) (q : Q (.int ((2 : Int) ^ W))) : Op2 w n (binaryOp .Pow) (.int 2) (.int (W : Nat)) Q := by
  refine pow_i (by omega) ?_ (by rw [Int.toNat_natCast]; exact q)
  have : (Builtin.Int.intBits 2 : Int) = 2 := by decide
  rw [this]; omega
theorem ne_li {xs : List Int} {Q : D → Prop} (q : Q (.bool false)) : Op2 w n (compareOp .NotEq) (.list (dints xs)) (.list (dints xs)) Q := by
  constructor
  intro A G s v1 v2 bd f i z r1 r2
  cases r1 with
  | list g1 h1 l1 =>
  cases r2 with
  | list g2 h2 l2 =>
  have r1 := l1.ints
  have r2 := l2.ints
  refine SeqAt.RcNeAt.lists (e := fun j => xs.getD j 0 == xs.getD j 0) h1 h2 (by simp [r1.length, r2.length]) (by have := bd.uni; omega) (fun j h1 h2 => ?_) _ _ _ _ (by
    have : ∀ m : Nat, (!(List.range m).all fun j => xs.getD j 0 == xs.getD j 0) = false := fun m => by simp
    rw [this]; exact Post.here i (.bool _) q)
  obtain ⟨t, e1⟩ := ints_getElem r1 j (by simpa using h1)
  obtain ⟨u, e2⟩ := ints_getElem r2 j (by simpa using h2)
  first
  | (rw [show _ = Value.int (xs.getD j 0) t by simpa using e1, show _ = Value.int (xs.getD j 0) u by simpa using e2]; exact (MeetsSeq.EqGives.int _ _ t u).at _ _)
  | (simp only [List.getElem_toArray, e1, e2]; exact (MeetsSeq.EqGives.int _ _ t u).at _ _)
theorem opt_strs : ([.str "", .str "\\)", .str "\"(\"", .str "\\\"", .str "\\\\"] : List D) = dchars optL := by
  have h0 : ("" : Str) = S [] := by decide +kernel
  have h1 : ("\\)" : Str) = S [92, 41] := by decide +kernel
  have h2 : ("\"(\"" : Str) = S [34, 40, 34] := by decide +kernel
  have h3 : ("\\\"" : Str) = S [92, 34] := by decide +kernel
  have h4 : ("\\\\" : Str) = S [92, 92] := by decide +kernel
  rw [h0, h1, h2, h3, h4]; rfl
end
/-- what the law's walk has found before its figures -/
structure LF (cells : List Int) (tot : Int) (t : List (List Int)) (s : Int) (W : List (List Int)) (rv : Int → Int) (tl : Nat) : Prop where
  c6 : cells.length = 6
  sq : Sq t
  wt : Wt t
  sy : Sym t
  sc : s ∈ corners
  sf : furC [s] t ≠ []
  mu : ∀ x, mu t x (s :: freeC [s]) = x * x * (x * x) + x * x * edgesM t + pairsM t ∧ 0 ≤ edgesM t ∧ edgesM t ≤ 324 ∧ 0 ≤ pairsM t ∧ pairsM t ≤ 8748 ∧ 0 ≤ (othersM t s).sum ∧ (othersM t s).sum ≤ 162
  gs : Good t [s]
  fs : freeN [s] ≤ 3
  hW : W = waysM t 3 [s]
  Wl : W.length ≤ 125
  Wp : 0 < W.length
  good : ∀ v ∈ W, Good t v
  rv3 : ∀ c, 0 ≤ rv c ∧ rv c ≤ 3
  tl3 : tl < 3
/-- the page's figure -/
theorem page_fig {cells : List Int} {tot : Int} {t : List (List Int)} {s : Int} {W : List (List Int)} {rv : Int → Int} {tl : Nat} (L : LF cells tot t s W rv tl) {x : Int} {X : Nat} (hx : bits x ≤ X) (hX : X ≤ 2000) :
    (∀ y ∈ W.map (leadOf t rv tl), WsOk y) ∧ PgOk (W.map (leadOf t rv tl)) (W.map (numV t)) x ((W.map (leadOf t rv tl)).length - 1) ((W.map (leadOf t rv tl)).map fun _ => 1) ((W.map (leadOf t rv tl)).map fun _ => 0) ∧
      pageM (W.map (leadOf t rv tl)) (W.map (numV t)) x = x * (bfM t x 3 [s]).1 + (bfM t x 3 [s]).2 := by
  have P : Pg (W.map (leadOf t rv tl)) (W.map (numV t)) t W := pg_of L.rv3 (Nat.le_of_lt L.tl3) L.wt (fun v hv => (L.good v hv).ok.1) (fun k v hk hv => by
    rw [List.getD_eq_getElem?_getD, List.getElem?_map, hv]
    show numV t v = _
    unfold numV
    have : ¬ v.length ≤ 1 := by
      rw [L.hW] at hv
      cases k with
      | zero => omega
      | succ k =>
        have hm : v ∈ (furM [s] t).flatMap (waysM t 2) := List.mem_of_getElem? (i := k) hv
        obtain ⟨c, hc, hv⟩ := List.mem_flatMap.mp hm
        obtain ⟨d, _, rfl⟩ := List.mem_map.mp hc
        have := waysM_long t 2 _ v hv
        simp at this; omega
    rw [if_neg this])
  refine ⟨fun y hy => ?_, ?_⟩
  · obtain ⟨v, _, rfl⟩ := List.mem_map.mp hy
    exact ld_ok (rowOf_row L.rv3 v) (beh_last t v) (Nat.le_of_lt L.tl3)
  · exact page_all P hx hX (f := 3) (by decide) L.hW (by rw [List.length_map])
end Mine
end

noncomputable section
--# Wl2
namespace Mine
open PySem PySem.W PyProof.Rows PySem.Calls

noncomputable def lawK : Env2 := ((("ISEOF", .fn 160) :: ("Whitespace", .fn 146) :: ("_check_parenthesis", .fn 84) :: ("_digits2int", .fn 49) :: ("_int2digits", .fn 42) :: ("_iter_escaped_chars", .fn 70) :: ("_law_by_page", .fn 222) :: ("_law_by_text", .fn 229) :: ("_law_columns", .fn 203) :: ("_law_signs", .fn 167) :: ("_law_table", .fn 172) :: ("_law_text", .fn 196) :: ("_law_ways", .fn 184) :: ("_strip_quoted_realnames", .fn 77) :: ("enumerate", .ty "enumerate") :: ("int_divmod", .fn 63) :: ("len", .bi "len") :: ("max", .bi "max") :: ("min", .bi "min") :: ("range", .ty "range") :: ("sorted", .bi "sorted") :: ("sum", .bi "sum") :: []) : Env2)
noncomputable def lawL : List Str := (("cells" :: "total" :: "table" :: "linked" :: "start" :: "ways" :: "signs" :: "runs" :: "heads" :: "page" :: "leads" :: "numbers" :: "wide" :: "behind" :: "alone" :: "beside" :: "pick" :: "size" :: "k" :: "columns" :: "gaps" :: "width" :: "upper" :: "pieces" :: "dressed" :: "shown" :: "kept" :: "whole" :: "bared" :: "place" :: "sign" :: "plain" :: "lower" :: "others" :: "net" :: "rest" :: "side" :: "turn" :: "quotient" :: "left" :: "pairs" :: "edges" :: "figures" :: "lacks" :: []) : List Str)
/-- what the law has found before its figures -/
structure LawB where
  ns : List Int
  cells : List Int
  tot : Int
  t : List (List Int)
  s : Int
  W : List (List Int)
  rv : Int → Int
  tl : Nat
  bh : Nat
  pk : Nat
  sz1 : Nat
noncomputable def lawR (b : LawB) (o1 o2 o3 : Option D) : Rho := ((("script", Ent.v (some (.list (dints b.ns)))) :: ("cells", Ent.v (some (.list (dints b.cells)))) :: ("total", Ent.v (some (.int b.tot))) :: ("table", Ent.v (some (drows b.t))) :: ("linked", Ent.v (some (.list (dints (lkM b.t))))) :: ("start", Ent.v (some (.int b.s))) :: ("ways", Ent.v (some (drows b.W))) :: ("signs", Ent.v (some (.list (dchars signL)))) :: ("runs", Ent.v (some (.list (b.W.map fun v => .list (dints (rowOf b.rv v)))))) :: ("heads", Ent.v (some (.list (b.W.map fun v => .str (S (white (rowOf b.rv v) b.tl)))))) :: ("page", Ent.v (some (.list (b.W.map fun v => .str (S (lineV b.t b.rv b.tl v)))))) :: ("leads", Ent.v (some (.list (b.W.map fun v => (leadOf b.t b.rv b.tl v).d)))) :: ("numbers", Ent.v (some (.list (dints (b.W.map (numV b.t)))))) :: ("wide", Ent.v (some (.list (dints [b.rv 4, b.rv 5])))) :: ("behind", Ent.v (some (.int (b.bh : Nat)))) :: ("alone", Ent.v (some ((ldM [b.rv 4, b.rv 5] b.bh [120]).d))) :: ("beside", Ent.v (some (.list (dints (colsM [b.rv 4, b.rv 5] b.bh))))) :: ("pick", Ent.v (some (.int (b.pk : Nat)))) :: ("size", Ent.v (some (.int (b.sz1 : Nat)))) :: ("k", Ent.v o1) :: ("columns", Ent.v o2) :: ("gaps", Ent.v o3) :: ("width", Ent.v none) :: ("upper", Ent.v none) :: ("pieces", Ent.v none) :: ("dressed", Ent.v none) :: ("shown", Ent.v none) :: ("kept", Ent.v none) :: ("whole", Ent.v none) :: ("bared", Ent.v none) :: ("place", Ent.v none) :: ("sign", Ent.v none) :: ("plain", Ent.v none) :: ("lower", Ent.v none) :: ("others", Ent.v none) :: ("net", Ent.v none) :: ("rest", Ent.v none) :: ("side", Ent.v none) :: ("turn", Ent.v none) :: ("quotient", Ent.v none) :: ("left", Ent.v none) :: ("pairs", Ent.v none) :: ("edges", Ent.v none) :: ("figures", Ent.v none) :: ("lacks", Ent.v none) :: []) : Rho)
/-- the page's figure -/
noncomputable def figU (b : LawB) (k : Nat) : Int := (2 : Int) ^ k * (bfM b.t (2 ^ k) 3 [b.s]).1 + (bfM b.t (2 ^ k) 3 [b.s]).2
noncomputable def S1 (b : LawB) (o1 o2 o3 : Option D) (k : Nat) : Rho := putAt (putAt (lawR b o1 o2 o3) 22 (.v (some (.int (k : Nat))))) 23 (.v (some (.int (figU b k))))
abbrev barT (Dt : List Tk) : List Nat := fl (Dt.filter Tk.notq)
abbrev keptT (Dt : List Tk) : List Nat := barT Dt ++ [34, 40]
noncomputable def S2 (b : LawB) (o1 o2 o3 : Option D) (k : Nat) (Dt : List Tk) : Rho := putAt (putAt (putAt (putAt (S1 b o1 o2 o3 k) 24 (.v (some (.list (dchars (pcs b.cells)))))) 25 (.v (some (.str (S (fl Dt)))))) 26 (.v (some (.str (S (barT Dt)))))) 27 (.v (some (.str (S (keptT Dt)))))
noncomputable def S3 (b : LawB) (o1 o2 o3 : Option D) (k : Nat) (Dt : List Tk) (wh br : List Nat) (o4 o5 : Option D) : Rho := putAt (putAt (putAt (putAt (S2 b o1 o2 o3 k Dt) 28 (.v (some (.str (S wh))))) 29 (.v (some (.str (S br))))) 30 (.v o4)) 31 (.v o5)
noncomputable def S4 (b : LawB) (o1 o2 o3 : Option D) (k : Nat) (Dt : List Tk) (o4 o5 : Option D) : Rho := putAt (S3 b o1 o2 o3 k Dt (keptT Dt ++ [92]) (textM b.t pc0 3 [b.s] ++ [34, 40, 92]) o4 o5) 32 (.v (some (.str (S (textM b.t pc0 3 [b.s])))))
abbrev LFb (b : LawB) : Prop := LF b.cells b.tot b.t b.s b.W b.rv b.tl
theorem noNe {α : Type} [DecidableEq α] {a b : α} {p q : Prop} (e : a = b) (h : q) : kIte p q (decide (a ≠ b)) := no (not_not_intro e) h
theorem noNot {c d : Bool} {p q : Prop} (e : c = d) (h : q) : kIte p q (c != d) := noB (by rw [e]; cases d <;> rfl) h
theorem d_opt (c : Int) : (c.fdiv 368).fmod 5 < ((5 : Nat) : Int) := Int.fmod_lt_of_pos _ (by decide)
theorem pick_kTo {Q : D → Prop} {ds : List D} (k : Nat) (q : Q (.list (ds.take k))) : Q (.list (pickD ds none (some (k : Int)) none)) := by rw [pick_to]; exact q
/-- the escapes' step -/
theorem esc_at {l : List Nat} {done rest : List (Nat × Str)} {p : Nat × Str} (h : escI false 0 l = done ++ p :: rest) : p.1 + 1 = (cat done ++ p.2.cps.toList).length ∧ (cat done).length + p.2.cps.toList.length ≤ l.length := by
  have e : cat (done ++ [p]) = cat done ++ p.2.cps.toList := List.flatMap_append.trans (congrArg (cat done ++ ·) (List.append_nil _))
  have h1 := cat_place l false 0 (fun q => nomatch q) done p rest h
  rw [e, Nat.zero_add] at h1
  refine ⟨h1, ?_⟩
  have h2 := congrArg List.length (cat_all l false 0)
  rw [h, List.append_cons, cat, List.flatMap_append, List.length_append] at h2
  rw [← List.length_append, ← e]
  exact Nat.le_trans (Nat.le_add_right _ _) (Nat.le_of_eq h2)
theorem cat1_le : ∀ l : List (Nat × Str), (cat1 l).length ≤ (cat l).length
  | [] => Nat.le_refl _
  | q :: l => by
    rw [cat1, cat, List.flatMap_cons, List.flatMap_cons, List.length_append, List.length_append]
    refine Nat.add_le_add ?_ (cat1_le l)
    split
    · exact Nat.le_refl _
    · exact Nat.zero_le _
theorem len2 {a b k : Nat} (h : a ≤ k) (hk : k + b ≤ 1000000) : a + b ≤ 1000000 := Nat.le_trans (Nat.add_le_add_right h b) hk
inductive EscI (b : LawB) (o1 o2 o3 : Option D) (k : Nat) (Dt : List Tk) (done rest : List (Nat × Str)) (ρ : Rho) : Prop
  | mk (o4 o5 : Option D) (e : ρ = S3 b o1 o2 o3 k Dt (cat done) (cat1 done) o4 o5)
inductive EscJ (b : LawB) (o1 o2 o3 : Option D) (k : Nat) (Dt : List Tk) (ρ : Rho) : Prop
  | mk (o4 o5 : Option D) (e : ρ = S3 b o1 o2 o3 k Dt (keptT Dt ++ [92]) (cat1 (escI false 0 (keptT Dt ++ [92]))) o4 o5)
/-- the last test of the texts -/
theorem plain_open {t : List (List Int)} {s : Int} : Plain ((textM t pc0 3 [s]).drop 1 ++ [40]) ∧ checkM ((textM t pc0 3 [s]).drop 1 ++ [40]) = false := by
  have hc0 := (textM_clo t 3 [s]).2
  have hP := textM_plain t 3 [s]
  rw [textM_eq] at hP ⊢
  have hd1 : (40 :: ((lastM t [s] ++ kidsT t 3 [s]) ++ [41])).drop 1 ++ [40] = (lastM t [s] ++ kidsT t 3 [s]) ++ [41, 40] := List.append_assoc ..
  rw [hd1]
  generalize lastM t [s] ++ kidsT t 3 [s] = m at hP hc0 ⊢
  have hPm : Plain (m ++ [41, 40]) := by
    unfold Plain at hP ⊢
    simp at hP ⊢
    exact hP
  refine ⟨hPm, ?_⟩
  rw [checkM_plain hPm, dep_app, hc0.1 0 (Int.le_refl _)]
  exact decide_eq_false (show ¬ (dep [41, 40] 0 = some 0) by decide)
theorem esc_bared {t : List (List Int)} {s : Int} {Dt : List Tk} (h0 : Dt.all Tk.ok = true) (h3 : fl (Dt.filter Tk.isC) = textM t pc0 3 [s]) : cat1 (escI false 0 (keptT Dt ++ [92])) = textM t pc0 3 [s] ++ [34, 40, 92] := by
  have e1 : keptT Dt ++ [92] = fl (Dt.filter Tk.notq) ++ [34, 40, 92] := List.append_assoc ..
  rw [e1, cat1_tok (Dt.filter Tk.notq) (List.all_eq_true.mpr fun a ha => List.all_eq_true.mp h0 a (List.mem_filter.mp ha).1) (List.all_eq_true.mpr fun a ha => (List.mem_filter.mp ha).2), List.filter_filter]
  have e2 : (Dt.filter fun a => a.isC && a.notq) = Dt.filter Tk.isC := congrArg (List.filter · Dt) (funext fun a => by cases a <;> rfl)
  rw [e2, h3]
section
variable {w : Wd} {n : Nat} {sc : Scope} {κ : Env2} {ρ : Rho}
theorem EV.to {e : Expr} {d : D} {Q : D → Prop} (h : EV w n sc κ ρ e (kEq d)) (q : Q d) : EV w n sc κ ρ e Q := h.mono fun _ e => e ▸ q
section
variable {b : LawB} {o1 o2 o3 : Option D} {fd : FuncData} {body : List Stmt} {K : Fl → Rho → Prop}
theorem tail_upper (O : FnOk 234 fd body ["script"] lawL lawK) (L : LFb b) (k : ∀ m : Nat, 14 ≤ m → m ≤ 1213 → SVs w (n + 129) fd.scope lawK (S1 b o1 o2 o3 m) (body.drop 19) K) : SVs w (n + 129) fd.scope lawK (lawR b o1 o2 o3) (body.drop 17) K := by
  obtain ⟨oc, od, osl, e⟩ := O.at' w.w.params
  have e2 : (KK w.w.params).lookup 234 = some ⟨_, _, .func _, _⟩ := rfl
  rw [e2] at e
  have hb := O.body
  clear O e2
  cases e
  cases hb
  obtain ⟨k0, hk0, hke⟩ := fmod_nat b.tot (show 0 < 1200 by decide)
  refine SVs.cons <| SV.asg <| EV.bin <| EV.cInt <| EV.bin <| EV.var (ix 2 rfl) <| EV.cInt <| fmod_i (by decide) <| add_i ?_
  have e : (14 : Int) + b.tot.fmod 1200 = ((14 + k0 : Nat) : Int) := congrArg (fun i : Int => 14 + i) hke
  rw [e]
  have hm1 : 14 + k0 ≤ 1213 := Nat.add_le_add_left (Nat.le_of_lt_succ hk0) 14
  have hm0 : 14 ≤ 14 + k0 := Nat.le_add_right ..
  generalize 14 + k0 = m at hm0 hm1
  obtain ⟨pf1, pf2, pf3⟩ := page_fig L (bits_mono (bits_pow m) (Nat.succ_le_succ hm1)) (by decide)
  have lm : (b.W.map (leadOf b.t b.rv b.tl)).length = b.W.length := List.length_map _
  have F := f_by_page (w := w) (n := n + 125) pf1 (lm.symm ▸ L.Wp) (lm.symm ▸ Nat.le_trans L.Wl (by decide : 125 ≤ 1000)) ((List.length_map _).trans lm.symm) pf2
  rw [pf3, show dws (b.W.map (leadOf b.t b.rv b.tl)) = D.list (b.W.map fun v => (leadOf b.t b.rv b.tl v).d) from congrArg D.list (List.map_map ..)] at F
  exact ⟨_, (put 22 rfl), SVs.cons <| SV.asg <| EV.call <| EV.con (ix 6 rfl) ⟨k222, EVs.cons <| EV.var (ix 11 rfl) <| EVs.cons <| EV.var (ix 12 rfl) <| EVs.cons <| EV.bin <| EV.cInt <| EV.var (ix 22 rfl) <| pow_n (Nat.le_trans hm1 (by decide)) <| EVs.nil <| CallOk.to F ⟨_, (put 23 rfl), k m hm0 hm1⟩⟩⟩
theorem f_text0 {t : List (List Int)} {s : Int} {pc : List (List Nat)} (hsq : Sq t) (hwt : Wt t) (hg : Good t [s]) (hf : freeN [s] ≤ 3) (h1 : ∀ p ∈ pc, p.length ≤ 3) (h2 : pc.length = 4) : CallOk w (n + 129) (.fn 196) [.list (dints [s]), drows t, .list (dchars signL), .list (dchars pc)] (kEq (.str (S (textM t pc 3 [s])))) :=
  f_text (n := n + 124) hsq hwt h1 h2 3 [s] (Nat.le_refl 3) hg hf (Nat.le_refl 4)
theorem tail_dress (O : FnOk 234 fd body ["script"] lawL lawK) (L : LFb b) {m : Nat} (k : ∀ Dt : List Tk, Dt.all Tk.ok = true → (fl Dt).length ≤ 1000 → (barT Dt).length ≤ 1000 → fl (Dt.filter Tk.isC) = textM b.t pc0 3 [b.s] → SVs w (n + 129) fd.scope lawK (S2 b o1 o2 o3 m Dt) (body.drop 24) K) : SVs w (n + 129) fd.scope lawK (S1 b o1 o2 o3 m) (body.drop 19) K := by
  obtain ⟨oc, od, osl, e⟩ := O.at' w.w.params
  have e2 : (KK w.w.params).lookup 234 = some ⟨_, _, .func _, _⟩ := rfl
  rw [e2] at e
  have hb := O.body
  clear O e2
  cases e
  cases hb
  obtain ⟨pl1, pl2, pl3, pl4⟩ := pcs_facts L.c6
  obtain ⟨Dt, hD0, hD1, hD2, hD3⟩ := dress L.c6 b.t b.s
  have hdl := hD1 ▸ textM_len b.t (pcs b.cells) pl2 3 [b.s]
  have hsl := hD2 ▸ textM_len b.t ((pcs b.cells).map cut) pl4 3 [b.s]
  have FD := f_text0 (w := w) (n := n) L.sq L.wt L.gs L.fs pl2 pl1
  have FS := f_text0 (w := w) (n := n) L.sq L.wt L.gs L.fs pl4 pl3
  rw [← hD1] at FD
  rw [← hD2] at FS
  have KK := k Dt hD0 hdl hsl hD3
  clear k hD1 hD2
  refine SVs.cons <| SV.asgComp (κc := []) (ρc := [("cell", .v none)]) ⟨rfl, by kernel_rfl, by decide +kernel, by kernel_rfl, by kernel_rfl, by decide +kernel, fun x d h => nomatch h⟩ rfl ?_
  refine IV.ofD <| EV.sliL <| EV.var (ix 1 rfl) ⟨_, rfl, (dints_len _).trans L.c6 ▸ sz 6, EP.non <| EP.som <| EV.cInt ⟨_, rfl, pick_kTo 4 ?_⟩⟩
  rw [show (dints b.cells).take 4 = (b.cells.take 4).map D.int from List.map_take.symm]
  refine IterD.list <| CB.map1 (xs := b.cells.take 4) (inj := D.int) (f := fun c => .str (S (optL.getD ((c.fdiv 368).fmod 5).toNat []))) (Nat.le_trans (List.length_take_le ..) (sz 4)) (fun c _ => ?_) ?_
  · refine EV.sub <| EV.ofN <| EN.disp <| EVs.cons <| EV.cStr <| EVs.cons <| EV.cStr <| EVs.cons <| EV.cStr <| EVs.cons <| EV.cStr <| EVs.cons <| EV.cStr <| EVs.nil ⟨sz 5, EV.bin <| EV.bin <| EV.var (.head _) <| EV.cInt <| fdiv_i (by decide) <| EV.cInt <| fmod_i (by decide) ?_⟩
    rw [opt_strs]
    exact item_c (Int.fmod_nonneg_of_pos _ (by decide)) (d_opt c) (Int.lt_trans (d_opt c) (by decide)) rfl
  have ep : (b.cells.take 4).map (fun c => D.str (S (optL.getD ((c.fdiv 368).fmod 5).toNat []))) = dchars (pcs b.cells) := by rw [dchars, pcs, List.map_map]; rfl
  rw [ep]
  refine ⟨_, (put 24 rfl), ?_⟩
  refine SVs.cons <| SV.asg <| EV.call <| EV.con (ix 11 rfl) ⟨k196, EVs.cons <| EV.ofN <| EN.disp <| EVs.cons <| EV.var (ix 5 rfl) <| EVs.nil ⟨sz 1, EVs.cons <| EV.var (ix 3 rfl) <| EVs.cons <| EV.var (ix 7 rfl) <| EVs.cons <| EV.var (ix 24 rfl) <| EVs.nil <| CallOk.to FD ⟨_, (put 25 rfl), ?_⟩⟩⟩
  -- shown
  refine SVs.cons <| SV.asg <| EV.call <| EV.con (ix 11 rfl) ⟨k196, EVs.cons <| EV.ofN <| EN.disp <| EVs.cons <| EV.var (ix 5 rfl) <| EVs.nil ⟨sz 1, EVs.cons <| EV.var (ix 3 rfl) <| EVs.cons <| EV.var (ix 7 rfl) <| EVs.cons <| EV.ofN <| EN.comp (κc := [("len", .bi "len")]) (ρc := [("piece", .v none)]) ⟨rfl, by kernel_rfl, by decide +kernel, by kernel_rfl, by kernel_rfl, by decide +kernel, (fall ⟨by decide +kernel, .glo (by kernel_rfl) (by kernel_rfl) (ix 16 rfl)⟩ <| fall_nil)⟩ rfl ?_⟩⟩
  refine IV.ofD <| EV.var (ix 24 rfl) <| IterD.list <| CB.map1 (xs := pcs b.cells) (inj := fun p : List Nat => .str (S p)) (f := fun p => .str (S (cut p))) (pl1 ▸ sz 4) (fun p hp => ?_) ?_
  · refine EV.ife <| TV.cmp <| EV.call <| EV.con (.head _) ⟨KeepOk.bi, EVs.cons <| EV.var (.head _) <| EVs.nil <| len_s (S_len p ▸ Nat.le_trans (pl2 p hp) (sz 3)) <| EV.cInt <| lt_i <| tru_b ?_⟩
    rw [S_len]
    by_cases h : p.length < 3
    · exact yes (Int.ofNat_lt.mpr h) <| EV.var (.head _) (congrArg (fun l => D.str (S l)) (if_pos h).symm)
    · exact no (fun q => h (Int.ofNat_lt.mp q)) <| EV.cStr (congrArg (fun l => D.str (S l)) (if_neg h : cut p = []).symm)
  rw [show (pcs b.cells).map (fun p => D.str (S (cut p))) = dchars ((pcs b.cells).map cut) by rw [dchars, List.map_map]; rfl]
  refine EVs.nil <| CallOk.to FS ⟨_, (put 26 rfl), ?_⟩
  -- kept
  have hq : ("\"(" : Str) = S [34, 40] := by decide +kernel
  refine SVs.cons <| SV.asg <| EV.call <| EV.con (ix 13 rfl) ⟨k77, EVs.cons <| EV.bin <| EV.var (ix 25 rfl) <| EV.cStr ?_⟩
  rw [show (Str.ofString "\"(") = S [34, 40] from hq]
  refine add_c (len2 hdl (by decide)) <| EVs.nil <| CallOk.to (f_strip (by rw [List.length_append]; exact Nat.le_trans (Nat.add_le_add_right hdl 2) (by decide))) ?_
  rw [strip_open hD0]
  refine ⟨_, (put 27 rfl), ?_⟩
  -- kept and dressed are as they should be
  refine SVs.cons <| SV.if <| TV.to (b := false) ?_ <| noB rfl <| SVs.nil KK
  refine TV.or <| TV.cmp <| EV.var (ix 27 rfl) <| EV.bin <| EV.var (ix 26 rfl) <| EV.cStr <| add_c (b := [34, 40]) (len2 hsl (by decide)) <| ne_s <| tru_b <| noNe rfl ?_
  refine TV.or <| TV.cmp <| EV.call <| EV.con (ix 2 rfl) ⟨k84, EVs.cons <| EV.var (ix 25 rfl) <| EVs.nil <| CallOk.to (f_check (Nat.le_trans hdl (by decide)) (by rw [strip_shut hD0]; exact Nat.le_trans hsl (by decide))) <| EV.cBool <| isNot_b <| tru_b <| noNot ?_ <| TV.orNil rfl⟩
  exact check_tks hD0 (by rw [hD3]; exact (textM_clo b.t 3 [b.s]).1.1 0 (Int.le_refl _))
theorem tail_esc (O : FnOk 234 fd body ["script"] lawL lawK) {m : Nat} {Dt : List Tk} (hl : (barT Dt).length ≤ 1000) (k : ∀ o4 o5, SVs w (n + 129) fd.scope lawK (S3 b o1 o2 o3 m Dt (keptT Dt ++ [92]) (cat1 (escI false 0 (keptT Dt ++ [92]))) o4 o5) (body.drop 26) K) : SVs w (n + 129) fd.scope lawK (S2 b o1 o2 o3 m Dt) (body.drop 24) K := by
  obtain ⟨oc, od, osl, e⟩ := O.at' w.w.params
  have e2 : (KK w.w.params).lookup 234 = some ⟨_, _, .func _, _⟩ := rfl
  rw [e2] at e
  have hb := O.body
  clear O e2
  cases e
  cases hb
  have hem : ("" : Str) = S [] := by decide +kernel
  have hbs : ("\\" : Str) = S [92] := by decide +kernel
  have hl0 : (keptT Dt).length ≤ 1002 := by rw [List.length_append]; exact Nat.add_le_add_right hl 2
  have hl1 : (keptT Dt ++ [92]).length ≤ 1003 := by rw [List.length_append]; exact Nat.add_le_add_right hl0 1
  refine SVs.cons <| SV.asg2 (hs2 := (by intro env h; cases env; subst h; rfl)) (h := EV.tup <| EVs.cons <| EV.cStr <| EVs.cons <| EV.cStr <| EVs.nil ⟨sz 2, _, _, rfl, _, _, (put 28 rfl), (put 29 rfl), ?_⟩)
  rw [show (Str.ofString "") = S [] from hem]
  refine SVs.join (EscJ b o1 o2 o3 m Dt) ?_ ?_
  · refine SV.forM (inj := dI) (xs := escI false 0 (keptT Dt ++ [92])) (EscI b o1 o2 o3 m Dt) ?_ ?_ ?_
    · refine IV.call <| EV.con (ix 5 rfl) ⟨k70, EVs.cons <| EV.bin <| EV.var (ix 27 rfl) <| EV.cStr ?_⟩
      rw [show (Str.ofString "\\") = S [92] from hbs]
      exact add_c (len2 hl0 (by decide)) <| EVs.nil <| iter_i (by rw [S_len]; exact Nat.le_trans (Nat.succ_le_succ hl1) (by decide)) ⟨rfl, none, none, rfl⟩
    · rintro done ⟨pp, sg⟩ rest _ hx ⟨o4, o5, rfl⟩
      obtain ⟨hpl, hcl⟩ := esc_at hx
      obtain ⟨sl, rfl⟩ : ∃ sl, sg = S sl := ⟨_, S_of sg⟩
      rw [S_cps] at hpl hcl
      have hc2 := Nat.le_trans hcl hl1
      have hs2 : sl.length ≤ 1003 := Nat.le_trans (Nat.le_add_left ..) hc2
      refine ⟨_, AS.pair (put 30 rfl) (put 31 rfl), ?_⟩
      refine SVs.cons <| SV.asg <| EV.bin <| EV.var (ix 28 rfl) <| EV.var (ix 31 rfl) <| add_c (Nat.le_trans hc2 (by decide)) ⟨_, (put 28 rfl), ?_⟩
      refine SVs.cons <| SV.asg <| EV.bin <| EV.var (ix 29 rfl) <| EV.to (d := .str (S (if sl.length = 1 then sl else []))) (EV.ife <| TV.cmp <| EV.call <| EV.con (ix 16 rfl) ⟨KeepOk.bi, EVs.cons <| EV.var (ix 31 rfl) <| EVs.nil <| len_s (S_len sl ▸ Nat.le_trans hs2 (by decide)) <| EV.cInt <| eq_i <| tru_b ?_⟩) ?_
      · rw [S_len]
        by_cases h : sl.length = 1
        · exact yes (congrArg Int.ofNat h) <| EV.var (ix 31 rfl) (congrArg (fun l => D.str (S l)) (if_pos h).symm)
        · exact no (fun q => h (Int.ofNat_inj.mp q)) <| EV.cStr ((congrArg D.str hem).trans (congrArg (fun l => D.str (S l)) (if_neg h).symm))
      have hs1 : (if sl.length = 1 then sl else []).length ≤ 1003 := by
        split
        · exact hs2
        · exact Nat.zero_le _
      refine add_c (Nat.le_trans (Nat.add_le_add (Nat.le_trans (cat1_le done) (Nat.le_trans (Nat.le_add_right ..) hc2)) hs1) (by decide)) ⟨_, (put 29 rfl), ?_⟩
      refine SVs.cons <| SV.if <| TV.cmp <| EV.bin <| EV.var (ix 30 rfl) <| EV.cInt <| add_i <| EV.call <| EV.con (ix 16 rfl) ⟨KeepOk.bi, EVs.cons <| EV.var (ix 28 rfl) <| EVs.nil <| len_s (by rw [S_len, List.length_append]; exact Nat.le_trans hc2 (by decide)) <| ne_i <| tru_b <| noNe ?_ <| SVs.nil <| SVs.nil ⟨some (.int (pp : Nat)), some (.str (S sl)), ?_⟩⟩
      · rw [S_len]; exact congrArg Int.ofNat hpl
      · have c1 : cat (done ++ [(pp, S sl)]) = cat done ++ sl := List.flatMap_append.trans (congrArg (cat done ++ ·) (List.append_nil _))
        have c2 : cat1 (done ++ [(pp, S sl)]) = cat1 done ++ (if sl.length = 1 then sl else []) := List.flatMap_append.trans (congrArg (cat1 done ++ ·) ((List.append_nil _).trans (by show (if (S sl).length = 1 then (S sl).cps.toList else []) = _; rw [S_len]; rfl)))
        rw [c1, c2]; rfl
    · rintro _ ⟨o4, o5, rfl⟩
      exact ⟨o4, o5, congrArg (fun l => S3 b o1 o2 o3 m Dt l _ o4 o5) (cat_all (keptT Dt ++ [92]) false 0)⟩
  · rintro _ ⟨o4, o5, rfl⟩
    exact k o4 o5
theorem tail_plain (O : FnOk 234 fd body ["script"] lawL lawK) (L : LFb b) {m : Nat} {Dt : List Tk} {o4 o5 : Option D} (hl : (barT Dt).length ≤ 1000) (k : SVs w (n + 129) fd.scope lawK (S4 b o1 o2 o3 m Dt o4 o5) (body.drop 28) K) : SVs w (n + 129) fd.scope lawK (S3 b o1 o2 o3 m Dt (keptT Dt ++ [92]) (textM b.t pc0 3 [b.s] ++ [34, 40, 92]) o4 o5) (body.drop 26) K := by
  obtain ⟨oc, od, osl, e⟩ := O.at' w.w.params
  have e2 : (KK w.w.params).lookup 234 = some ⟨_, _, .func _, _⟩ := rfl
  rw [e2] at e
  have hb := O.body
  clear O e2
  cases e
  cases hb
  have hp0 : ∀ p ∈ pc0, p.length ≤ 3 := by decide
  have hpll := textM_len b.t pc0 hp0 3 [b.s]
  refine SVs.cons <| SV.asg <| EV.call <| EV.con (ix 11 rfl) ⟨k196, EVs.cons <| EV.ofN <| EN.disp <| EVs.cons <| EV.var (ix 5 rfl) <| EVs.nil ⟨sz 1, EVs.cons <| EV.var (ix 3 rfl) <| EVs.cons <| EV.var (ix 7 rfl) <| EVs.cons <| EV.ofN <| EN.disp <| EVs.cons <| EV.cStr <| EVs.cons <| EV.cStr <| EVs.cons <| EV.cStr <| EVs.cons <| EV.cStr <| EVs.nil ⟨sz 4, EVs.nil <| CallOk.to (f_text0 (n := n) L.sq L.wt L.gs L.fs hp0 rfl) ⟨_, (put 32 rfl), ?_⟩⟩⟩⟩
  refine SVs.cons <| SV.if <| TV.to (b := false) ?_ <| noB rfl <| SVs.nil k
  refine TV.or <| TV.cmp <| EV.var (ix 28 rfl) <| EV.bin <| EV.var (ix 27 rfl) <| EV.cStr <| add_c (b := [92]) (by rw [List.length_append]; exact Nat.le_trans (Nat.add_le_add_right (Nat.add_le_add_right hl 2) 1) (by decide)) <| ne_s <| tru_b <| noNe rfl ?_
  refine TV.or <| TV.cmp <| EV.var (ix 29 rfl) <| EV.bin <| EV.var (ix 32 rfl) <| EV.cStr <| add_c (b := [34, 40, 92]) (len2 hpll (by decide)) <| ne_s <| tru_b <| noNe rfl ?_
  refine TV.or <| TV.cmp <| EV.call <| EV.con (ix 2 rfl) ⟨k84, EVs.cons <| EV.bin <| EV.sliS <| EV.var (ix 32 rfl) ⟨_, rfl, S_len _ ▸ Nat.le_trans hpll (by decide), EP.som <| EV.cInt ⟨_, rfl, EP.non ?_⟩⟩⟩
  refine as (Q := fun x => kBin _ _ _ _ _ _ _ _ (D.str x)) (S_sliceTo (textM b.t pc0 3 [b.s]) (a := 1) (by decide)) ?_
  have hd1 : ((textM b.t pc0 3 [b.s]).drop 1).length ≤ 1000 := Nat.le_trans (by rw [List.length_drop]; exact Nat.sub_le ..) hpll
  have hd2 : ((textM b.t pc0 3 [b.s]).drop 1 ++ [40]).length ≤ 1001 := by rw [List.length_append]; exact Nat.add_le_add_right hd1 1
  refine EV.cStr <| add_c (a := (textM b.t pc0 3 [b.s]).drop 1) (b := [40]) (len2 hd1 (by decide)) <| EVs.nil ?_
  exact CallOk.to (f_check (Nat.le_trans hd2 (by decide)) (by rw [stripM_plain plain_open.1.1]; exact Nat.le_trans hd2 (by decide))) <| EV.cBool <| isNot_b <| tru_b <| noNot plain_open.2 <| TV.orNil rfl
end
end
end Mine
end

noncomputable section
--# Wl3
namespace Mine
open PySem PySem.W PyProof.Rows PySem.Calls

/-- what the law's frame holds when the texts are done -/
structure LawC where
  b : LawB
  o1 : Option D
  o2 : Option D
  o3 : Option D
  m : Nat
  Dt : List Tk
  o4 : Option D
  o5 : Option D
noncomputable def LawC.x (c : LawC) : Int := (2 : Int) ^ c.m
noncomputable def LawC.B (c : LawC) : Int := (bfM c.b.t (2 ^ c.m) 3 [c.b.s]).1
noncomputable def LawC.U (c : LawC) : Int := figU c.b c.m
noncomputable def LawC.f4 (c : LawC) : List Nat := [(pairsM c.b.t).toNat, 0, (edgesM c.b.t).toNat, 0]
noncomputable def LawC.fs (c : LawC) : List Nat := c.f4 ++ [1]
noncomputable def LawC.ns (c : LawC) : List Nat := [0, (othersM c.b.t c.b.s).sum.toNat, 0, 1]
noncomputable def LawC.M (c : LawC) : Nat := dval c.m c.fs
noncomputable def LawC.N (c : LawC) : Nat := dval c.m c.ns
noncomputable def LawC.S4 (c : LawC) : Rho := Mine.S4 c.b c.o1 c.o2 c.o3 c.m c.Dt c.o4 c.o5
noncomputable def LawC.S5 (c : LawC) : Rho := putAt c.S4 33 (.v (some (.int c.B)))
noncomputable def LawC.S6 (c : LawC) : Rho := putAt c.S5 34 (.v (some (.list (dints (othersM c.b.t c.b.s)))))
noncomputable def LawC.S7 (c : LawC) (re sd tu : Int) : Rho := putAt (putAt (putAt (putAt (putAt (putAt c.S6 35 (.v (some (.int (c.N : Nat))))) 36 (.v (some (.int re)))) 37 (.v (some (.int sd)))) 38 (.v (some (.int tu)))) 39 (.v (some (.int (sd * tu * (c.M : Int)))))) 40 (.v (some (.int (sd * re))))
noncomputable def LawC.S8 (c : LawC) (re sd tu : Int) : Rho := putAt (putAt (putAt (c.S7 re sd tu) 41 (.v (some (.int (pairsM c.b.t))))) 42 (.v (some (.int (edgesM c.b.t))))) 43 (.v (some (.list (dints (dnats c.fs)))))
/-- the figures' bounds and what binds them -/
structure LawN (c : LawC) : Prop where
  m0 : 14 ≤ c.m
  m1 : c.m ≤ 1213
  pz : 0 ≤ pairsM c.b.t
  ez : 0 ≤ edgesM c.b.t
  oz : 0 ≤ (othersM c.b.t c.b.s).sum
  fl : ∀ y ∈ c.fs, y < 2 ^ c.m
  nl : ∀ y ∈ c.ns, y < 2 ^ c.m
  xB : c.x ≤ c.B
  bB : bits c.B ≤ 120000
  bU : bits c.U ≤ 200000
  god : c.U * (c.N : Int) = c.B * (c.M : Int)
theorem fa {P : Nat → Prop} {a : Nat} {l : List Nat} (h : P a) (t : ∀ y ∈ l, P y) : ∀ y ∈ a :: l, P y := List.forall_mem_cons.mpr ⟨h, t⟩
theorem fn {P : Nat → Prop} : ∀ y ∈ ([] : List Nat), P y := fun _ h => absurd h List.not_mem_nil
theorem lt_pow {i : Int} {k m : Nat} (h0 : 0 ≤ i) (h1 : i ≤ k) (hk : k < 2 ^ 14) (hm : 14 ≤ m) : i.toNat < 2 ^ m := Nat.lt_of_lt_of_le (Nat.lt_of_le_of_lt (Int.ofNat_le.mp (by rw [Int.toNat_of_nonneg h0]; exact h1)) hk) (pow_mono hm)
theorem law_nums {c : LawC} (L : LFb c.b) (m0 : 14 ≤ c.m) (m1 : c.m ≤ 1213) : LawN c := by
  obtain ⟨hm4, E0, E1, P0, P1, O0, O1⟩ := L.mu c.x
  have z : 0 < 2 ^ c.m := Nat.two_pow_pos _
  have o : 1 < 2 ^ c.m := Nat.lt_of_lt_of_le (by decide : 1 < 2 ^ 14) (pow_mono m0)
  have hx1 : (1 : Int) ≤ c.x := Int.pow_pos (by decide)
  have hxb : bits c.x ≤ 1214 := bits_mono (bits_pow c.m) (Nat.succ_le_succ m1)
  obtain ⟨bB, bF⟩ := bfM_bits L.wt hxb 3 [c.b.s]
  have h3 := Bd3 (X := 1214) (by decide)
  have god := godsil L.sy L.wt c.x 3 [c.b.s] (List.cons_ne_nil _ _) L.fs (Nat.le_refl 3)
  rw [show ([c.b.s] : List Int).getLastD 0 = c.b.s from rfl, hm4, mu_three c.b.t L.sy L.sc c.x] at god
  refine ⟨m0, m1, P0, E0, O0, fa (lt_pow P0 P1 (by decide) m0) (fa z (fa (lt_pow E0 E1 (by decide) m0) (fa z (fa o fn)))), fa z (fa (lt_pow O0 O1 (by decide) m0) (fa z (fa o fn))), (bfM_pos hx1 L.wt 3 [c.b.s]).2.2 (by decide) L.sf, bits_mono bB h3, bits_mono (bits_add (m := 130000) (bits_mono (bits_mul hxb bB) (Nat.le_trans (Nat.add_le_add_left h3 _) (by decide))) (bits_mono bF (Nat.le_trans h3 (by decide)))) (by decide), ?_⟩
  show figU c.b c.m * ((dval c.m [0, _, 0, 1] : Nat) : Int) = c.B * ((dval c.m [_, 0, _, 0, 1] : Nat) : Int)
  rw [net_dval, fig_dval, Int.toNat_of_nonneg P0, Int.toNat_of_nonneg E0, Int.toNat_of_nonneg O0]
  exact god
theorem root_text {t : List (List Int)} {s : Int} : textM t pc0 3 [s] = [40] ++ (kidsT t 3 [s] ++ 41 :: []) := by
  rw [textM_eq, show lastM t [s] = [] from if_pos (Nat.le_refl 1)]; rfl
noncomputable def othG (t : List (List Int)) (s p : Int) (dq : List Int) : List Int := (dq.filter fun q => decide (s ∉ [p, q])).map fun q => T t p q
noncomputable def oth (t : List (List Int)) (s : Int) (dn : List Int) : List Int := dn.flatMap fun p => othG t s p (iR p.toNat)
inductive OthI (t : List (List Int)) (s : Int) (ds : List D) (ρ : Rho) (acc : List D) : Prop
  | mk (dn rs : List Int) (u1 u2 : Option D) (h : corners = dn ++ rs) (hd : ds = dints rs) (ha : acc = dints (oth t s dn)) (e : ρ = ([("p", Ent.v u1), ("q", Ent.v u2)] : Rho))
inductive OthJ (t : List (List Int)) (s p : Int) (dn : List Int) (ds : List D) (ρ : Rho) (acc : List D) : Prop
  | mk (dq rq : List Int) (u2 : Option D) (h : iR p.toNat = dq ++ rq) (hd : ds = dints rq) (ha : acc = dints (oth t s dn ++ othG t s p dq)) (e : ρ = ([("p", Ent.v (some (.int p))), ("q", Ent.v u2)] : Rho))
theorem iR_len (p : Nat) : (iR p).length = p := (List.length_map _).trans List.length_range
theorem othG_len (t : List (List Int)) (s p : Int) (dq : List Int) : (othG t s p dq).length ≤ dq.length := Nat.le_trans (Nat.le_of_eq (List.length_map _)) (List.length_filter_le ..)
theorem oth_len {t : List (List Int)} {s : Int} : ∀ {ps : List Int}, (∀ p ∈ ps, p < 4) → (oth t s ps).length ≤ 4 * ps.length
  | [], _ => Nat.le_refl _
  | p :: ps, h => by
    rw [oth, List.flatMap_cons, List.length_append, List.length_cons, Nat.mul_succ, Nat.add_comm]
    exact Nat.add_le_add (oth_len fun q hq => h q (.tail _ hq)) (Nat.le_trans (othG_len ..) (Nat.le_trans (Nat.le_of_eq (iR_len _)) (Int.toNat_le.mpr (Int.le_of_lt (h p (.head _))))))
theorem corner_4 {p : Int} (h : p ∈ corners) : 0 ≤ p ∧ p < 4 := by
  simp only [corners, List.mem_cons, List.not_mem_nil, or_false] at h
  rcases h with rfl | rfl | rfl | rfl <;> decide
theorem oth_snoc {t : List (List Int)} {s p : Int} {dn : List Int} : oth t s dn ++ othG t s p (iR p.toNat) = oth t s (dn ++ [p]) := (List.flatMap_append.trans (congrArg (oth t s dn ++ ·) (List.append_nil _))).symm
theorem othG_in {t : List (List Int)} {s p q : Int} {dq : List Int} (h : s ∉ [p, q]) : othG t s p (dq ++ [q]) = othG t s p dq ++ [T t p q] := by
  rw [othG, List.filter_append, List.filter_cons_of_pos (p := fun q => decide (s ∉ [p, q])) (decide_eq_true h), List.map_append]; rfl
theorem othG_out {t : List (List Int)} {s p q : Int} {dq : List Int} (h : s ∈ [p, q]) : othG t s p (dq ++ [q]) = othG t s p dq := by
  rw [othG, List.filter_append, List.filter_cons_of_neg (p := fun q => decide (s ∉ [p, q])) (by rw [decide_eq_true_eq]; exact not_not_intro h), List.filter_nil, List.append_nil]; rfl
theorem iR_at {p : Nat} {q : Int} (h : q ∈ iR p) : 0 ≤ q ∧ q < p := by
  obtain ⟨k, hk, rfl⟩ := List.mem_map.mp h
  exact ⟨Int.natCast_nonneg k, Int.ofNat_lt.mpr (List.mem_range.mp hk)⟩
theorem nil_dints {l : List Int} (h : [] = dints l) : l = [] := List.map_eq_nil_iff.mp h.symm
theorem sgn (y : Int) : 1 - 2 * y.fmod 2 = 1 ∨ 1 - 2 * y.fmod 2 = -1 := by
  have h1 := Int.fmod_nonneg_of_pos y (show (0 : Int) < 2 by decide)
  have h2 := Int.fmod_lt_of_pos y (show (0 : Int) < 2 by decide)
  omega
theorem sgn_abs {a : Int} (h : a = 1 ∨ a = -1) : a.natAbs ≤ 1000000 ∧ bits a ≤ 1 := by rcases h with rfl | rfl <;> decide
theorem cast_pow2 (k : Nat) : (2 : Int) ^ k = ((2 ^ k : Nat) : Int) := (Int.natCast_pow 2 k).symm
theorem T_abs {t : List (List Int)} (hw : Wt t) (i j : Int) : (T t i j).natAbs ≤ 1000000 := by rcases hw i j with h | h <;> omega
section
variable {w : Wd} {n : Nat} {sc : Scope} {κ : Env2} {ρ : Rho}
theorem item_T {value slice : Expr} {t : List (List Int)} {i j : Int} {Q : D → Prop} (ht : Sq t) (hi : 0 ≤ i ∧ i < 4) (hj : 0 ≤ j ∧ j < 4) (q : Q (.int (T t i j)))
    (hs : ∀ o i, subscripted slice false o i = operate [o, i] (getItem o i) := by intro _ _; rfl) : Op2 w n (subscriptTail value slice) (.list (dints (t.getD i.toNat []))) (.int j) Q :=
  item_i hj.1 (by rw [sqT ht hi.1 hi.2]; exact hj.2) (Int.lt_trans hj.2 (by decide)) q hs
theorem item_R {value slice : Expr} {t : List (List Int)} {i : Int} {Q : D → Prop} (ht : Sq t) (hi : 0 ≤ i ∧ i < 4) (q : Q (.list (dints (t.getD i.toNat []))))
    (hs : ∀ o i, subscripted slice false o i = operate [o, i] (getItem o i) := by intro _ _; rfl) : Op2 w n (subscriptTail value slice) (drows t) (.int i) Q :=
  item_r hi.1 (by rw [ht.len]; exact hi.2) (Int.lt_trans hi.2 (by decide)) q hs
section
variable {c : LawC} {fd : FuncData} {body : List Stmt} {K : Fl → Rho → Prop} {re sd tu : Int}
theorem tail_lower (O : FnOk 234 fd body ["script"] lawL lawK) (L : LFb c.b) (N : LawN c) (k : SVs w (n + 129) fd.scope lawK c.S5 (body.drop 29) K) : SVs w (n + 129) fd.scope lawK c.S4 (body.drop 28) K := by
  obtain ⟨oc, od, osl, e⟩ := O.at' w.w.params
  have e2 : (KK w.w.params).lookup 234 = some ⟨_, _, .func _, _⟩ := rfl
  rw [e2] at e
  have hb := O.body
  clear O e2
  cases e
  cases hb
  have hpll := textM_len c.b.t pc0 (by decide) 3 [c.b.s]
  have FT := f_by_text (w := w) (n := n + 122) (X := 1214) L.wt (by decide) (bits_mono (bits_pow c.m) (Nat.succ_le_succ N.m1)) (Nat.le_trans hpll (by decide)) 3 [c.b.s] [40] [] root_text (by decide) L.gs L.fs (Nat.le_refl 4)
  exact SVs.cons <| SV.asg <| EV.sub <| EV.call <| EV.con (ix 7 rfl) ⟨k229, EVs.cons <| EV.var (ix 32 rfl) <| EVs.cons <| EV.cInt <| EVs.cons <| EV.bin <| EV.cInt <| EV.var (ix 22 rfl) <| pow_n (Nat.le_trans N.m1 (by decide)) <| EVs.nil <| CallOk.to FT <| EV.cInt <| item_t (ns := [(bfM c.b.t (2 ^ c.m) 3 [c.b.s]).1, (bfM c.b.t (2 ^ c.m) 3 [c.b.s]).2]) (by decide) (show (0 : Int) < ((2 : Nat) : Int) by decide) (by decide) ⟨_, (put 33 rfl), k⟩⟩
theorem tail_others (O : FnOk 234 fd body ["script"] lawL lawK) (L : LFb c.b) (k : SVs w (n + 129) fd.scope lawK c.S6 (body.drop 30) K) : SVs w (n + 129) fd.scope lawK c.S5 (body.drop 29) K := by
  obtain ⟨oc, od, osl, e⟩ := O.at' w.w.params
  have e2 : (KK w.w.params).lookup 234 = some ⟨_, _, .func _, _⟩ := rfl
  rw [e2] at e
  have hb := O.body
  clear O e2
  cases e
  cases hb
  refine SVs.cons <| SV.asgComp (κc := [("table", drows c.b.t), ("start", .int c.b.s), ("range", .ty "range")]) (ρc := [("p", .v none), ("q", .v none)]) ⟨rfl, by kernel_rfl, by decide +kernel, by kernel_rfl, by kernel_rfl, by decide +kernel, (fall ⟨by decide +kernel, .cap (by kernel_rfl) (.inl (by kernel_rfl)) (ix 3 rfl) rfl⟩ <| fall ⟨by decide +kernel, .cap (by kernel_rfl) (.inl (by kernel_rfl)) (ix 5 rfl) rfl⟩ <| fall ⟨by decide +kernel, .glo (by kernel_rfl) (by kernel_rfl) (ix 19 rfl)⟩ <| fall_nil)⟩ rfl ?_
  refine IV.call <| EV.con (ix 19 rfl) ⟨KeepOk.ty, EVs.cons <| EV.cInt <| EVs.nil <| range_1 (by decide) (by decide) ?_⟩
  refine CB.two (OthI c.b.t c.b.s) ⟨[], corners, none, none, rfl, rfl, rfl, rfl⟩ ?_ ?_ rfl
  · rintro d ds _ _ ⟨dn, rs, u1, u2, hdn, hd, rfl, rfl⟩
    cases rs with
    | nil => cases hd
    | cons p rs =>
      obtain ⟨rfl, rfl⟩ := List.cons.inj hd
      have hp := corner_4 (mem_done hdn)
      have hc : ∀ q ∈ dn, q < 4 := fun q hq => (corner_4 (hdn ▸ List.mem_append_left _ hq)).2
      have hl : (oth c.b.t c.b.s dn).length ≤ 16 := Nat.le_trans (oth_len hc) (Nat.mul_le_mul_left 4 (Nat.le_trans (Nat.le_add_right _ _) (Nat.le_of_eq ((congrArg List.length hdn).trans List.length_append).symm)))
      refine ⟨_, AS.name .hit, ?_⟩
      show EM w _ _ _ _ _ _ _
      refine EM.clause (OthJ c.b.t c.b.s p dn) ?_ ?_ ?_ rfl
      · refine IV.call <| EV.con (ix 2 rfl) ⟨KeepOk.ty, EVs.cons <| EV.var (.head _) <| EVs.nil <| range_1 hp.1 (Int.lt_trans hp.2 (by decide)) ?_⟩
        refine ⟨[], iR p.toNat, u2, rfl, ?_, congrArg dints (List.append_nil _).symm, rfl⟩
        rw [arD_zero]; exact (List.map_map ..).symm
      · rintro d ds _ _ ⟨dq, rq, u2, hdq, hd, rfl, rfl⟩
        cases rq with
        | nil => cases hd
        | cons q rq =>
          obtain ⟨rfl, rfl⟩ := List.cons.inj hd
          have hq := iR_at (mem_done hdq)
          rw [Int.toNat_of_nonneg hp.1] at hq
          have hql : dq.length ≤ 4 := Nat.le_trans (Nat.le_add_right _ _) (Nat.le_trans (Nat.le_of_eq ((congrArg List.length hdq).trans List.length_append).symm) (Nat.le_trans (Nat.le_of_eq (iR_len _)) (Int.toNat_le.mpr (Int.le_of_lt hp.2))))
          refine ⟨_, AS.name (.skip .hit), ?_⟩
          show TV w _ _ _ _ _ _
          refine TV.cmp <| EV.con (ix 1 rfl) <| EV.tup <| EVs.cons <| EV.var (.head _) <| EVs.cons <| EV.var (ix 1 rfl) <| EVs.nil ⟨sz 2, notIn_t (ns := [p, q]) <| tru_b ?_⟩
          by_cases hin : c.b.s ∈ [p, q]
          · refine no (not_not_intro hin) ⟨dq ++ [q], rq, some (.int q), hdq.trans (List.append_cons ..), rfl, ?_, rfl⟩
            rw [othG_out hin]
          · refine yes hin <| EM.elt (Nat.le_trans (Nat.le_of_eq ((dints_len _).trans List.length_append)) (Nat.le_trans (Nat.add_le_add hl (Nat.le_trans (othG_len ..) hql)) (sz 20))) ?_
            refine EV.sub <| EV.sub <| EV.con (.head _) <| EV.var (.head _) <| item_R L.sq hp <| EV.var (ix 1 rfl) <| item_T L.sq hp ⟨hq.1, Int.lt_trans hq.2 hp.2⟩ ⟨dq ++ [q], rq, some (.int q), hdq.trans (List.append_cons ..), rfl, ?_, rfl⟩
            rw [othG_in hin, ← List.append_assoc]
            exact (List.map_append (f := D.int) (l₂ := [T c.b.t p q])).symm
      · rintro _ _ ⟨dq, rq, u2, hdq, hd, rfl, rfl⟩
        obtain rfl := nil_dints hd
        rw [List.append_nil] at hdq
        exact ⟨dn ++ [p], rs, _, _, hdn.trans (List.append_cons ..), rfl, congrArg dints (hdq ▸ oth_snoc), rfl⟩
  · rintro _ _ ⟨dn, rs, u1, u2, hdn, hd, rfl, rfl⟩
    obtain rfl := nil_dints hd
    rw [List.append_nil] at hdn
    subst hdn
    exact ⟨_, (put 34 rfl), k⟩
theorem tail_div (O : FnOk 234 fd body ["script"] lawL lawK) (N : LawN c) (k : ∀ re sd tu : Int, (sd = 1 ∨ sd = -1) → (tu = 1 ∨ tu = -1) → SVs w (n + 129) fd.scope lawK (c.S7 re sd tu) (body.drop 34) K) : SVs w (n + 129) fd.scope lawK c.S6 (body.drop 30) K := by
  obtain ⟨oc, od, osl, e⟩ := O.at' w.w.params
  have e2 : (KK w.w.params).lookup 234 = some ⟨_, _, .func _, _⟩ := rfl
  rw [e2] at e
  have hb := O.body
  clear O e2
  cases e
  cases hb
  have hB0 : 0 < c.B := Int.lt_of_lt_of_le (Int.pow_pos (by decide)) N.xB
  have FN := f_digits2int (w := w) (n := n + 123) (ns := c.ns) (b := c.m) (Nat.le_trans N.m1 (by decide)) (show 4 ≤ 100 by decide) N.nl
  refine SVs.cons <| SV.asg <| EV.call <| EV.con (ix 3 rfl) ⟨k49, EVs.cons <| EV.ofN <| EN.disp <| EVs.cons <| EV.cInt <| EVs.cons <| EV.call <| EV.con (ix 21 rfl) ⟨KeepOk.bi, EVs.cons <| EV.var (ix 34 rfl) <| EVs.nil <| sum_l <| EVs.cons <| EV.cInt <| EVs.cons <| EV.cInt <| EVs.nil ⟨sz 4, EVs.cons <| EV.var (ix 22 rfl) <| EVs.nil ?_⟩⟩⟩
  have e1 : ([.int 0, .int (othersM c.b.t c.b.s).sum, .int 0, .int 1] : List D) = dints (dnats c.ns) := congrArg (fun i : Int => [D.int 0, .int i, .int 0, .int 1]) (Int.toNat_of_nonneg N.oz).symm
  rw [e1]
  refine CallOk.to FN ⟨_, (put 35 rfl), ?_⟩
  refine SVs.cons <| SV.asg <| EV.bin <| EV.bin <| EV.var (ix 2 rfl) <| EV.cInt <| sub_i <| EV.var (ix 33 rfl) <| fmod_i (Int.ne_of_gt hB0) ⟨_, (put 36 rfl), ?_⟩
  have re0 := Int.fmod_nonneg_of_pos (c.b.tot - 1) hB0
  have re1 := Int.fmod_lt_of_pos (c.b.tot - 1) hB0
  generalize (c.b.tot - 1).fmod c.B = re at re0 re1 ⊢
  refine SVs.cons <| SV.asg2s (hs2 := (by intro env h; cases env; subst h; rfl)) (h := EV.tup <| EVs.cons <| EV.bin <| EV.cInt <| EV.bin <| EV.cInt <| EV.bin <| EV.bin <| EV.var (ix 2 rfl) <| EV.cInt <| fdiv_i (by decide) <| EV.cInt <| fmod_i (by decide) <| mul_i (small_mulA (by decide)) <| sub_i <|
    EVs.cons <| EV.bin <| EV.cInt <| EV.bin <| EV.cInt <| EV.bin <| EV.bin <| EV.var (ix 2 rfl) <| EV.cInt <| fdiv_i (by decide) <| EV.cInt <| fmod_i (by decide) <| mul_i (small_mulA (by decide)) <| sub_i <| EVs.nil ⟨sz 2, _, _, rfl, _, _, (put 38 rfl), (put 37 rfl), ?_⟩)
  have hsd := sgn (c.b.tot.fdiv 4)
  have htu := sgn (c.b.tot.fdiv 8)
  generalize 1 - 2 * (c.b.tot.fdiv 4).fmod 2 = sd at hsd ⊢
  generalize 1 - 2 * (c.b.tot.fdiv 8).fmod 2 = tu at htu ⊢
  have hnb := bits_mono (bits_nat (dval_lt c.m c.ns N.nl)) (show c.m * 4 ≤ 4852 from Nat.mul_le_mul_right 4 N.m1)
  have ha : tu * (c.N : Int) * c.U + sd * re = tu * (c.M : Int) * c.B + sd * re := by
    rw [Int.mul_assoc, Int.mul_comm (c.N : Int), N.god, Int.mul_assoc, Int.mul_comm (c.M : Int)]
  have hM5 : (c.M : Int) < 2 ^ (5 * c.m) := by
    rw [cast_pow2, Nat.mul_comm]; exact Int.ofNat_lt.mpr (dval_lt c.m c.fs N.fl)
  obtain ⟨dq1, dq2⟩ := div_fin (turn := tu) (M := (c.M : Int)) hB0 re0 re1 hsd
  have FD := f_int_divmod (w := w) (n := n + 16) (dv_ok (W := c.m) N.xB N.bB (Int.natCast_nonneg c.M) hM5 re0 re1 hsd htu)
  rw [dq1, dq2, ← ha] at FD
  exact SVs.cons <| SV.asg2 <| EV.call <| EV.con (ix 15 rfl) ⟨k63, EVs.cons <| EV.bin <| EV.bin <| EV.bin <| EV.var (ix 38 rfl) <| EV.var (ix 35 rfl) <| mul_i (small_mulA (sgn_abs htu).1) <| EV.var (ix 23 rfl) <| mul_i (mulOk (bits_mono (bits_mul (sgn_abs htu).2 hnb) (by decide)) (bits_mono N.bU (by decide))) <| EV.bin <| EV.var (ix 37 rfl) <| EV.var (ix 36 rfl) <| mul_i (small_mulA (sgn_abs hsd).1) <| add_i <| EVs.cons <| EV.bin <| EV.var (ix 37 rfl) <| EV.var (ix 33 rfl) <| mul_i (small_mulA (sgn_abs hsd).1) <| EVs.nil <| CallOk.to FD ⟨_, _, rfl, _, _, (put 39 rfl), (put 40 rfl), k re sd tu hsd htu⟩⟩
theorem fdiv_dints {t : List (List Int)} : (t.map fun r => D.int r.sum) = dints (t.map List.sum) := (List.map_map ..).symm
theorem pm1 {sd tu : Int} (hsd : sd = 1 ∨ sd = -1) (htu : tu = 1 ∨ tu = -1) (M : Int) : tu * sd * (sd * tu * M) = M ∧ (tu * sd).natAbs ≤ 1000000 := by
  rcases hsd with rfl | rfl <;> rcases htu with rfl | rfl <;> exact ⟨by omega, by decide⟩
theorem figs_im {c : LawC} : ([.int (pairsM c.b.t), .int 0, .int (edgesM c.b.t), .int 0, .int 1] : List D) = dints [pairsM c.b.t, 0, edgesM c.b.t, 0, 1] := rfl
theorem figs_n {c : LawC} (N : LawN c) : dints [pairsM c.b.t, 0, edgesM c.b.t, 0, 1] = dints (dnats c.fs) := congrArg dints (by
  show [_, _, _, _, _] = [((pairsM c.b.t).toNat : Int), 0, ((edgesM c.b.t).toNat : Int), 0, 1]
  rw [Int.toNat_of_nonneg N.pz, Int.toNat_of_nonneg N.ez])
theorem digs_fs {c : LawC} (N : LawN c) : CallOk w (n + 129) (.fn 42) [.int (c.M : Nat), .int (c.m : Nat)] (kEq (.list (dints (dnats c.fs)))) := by
  have h1 : 1 ≤ c.m := Nat.le_trans (by decide) N.m0
  have hk := kM_dval (n := c.m) h1 (l := c.f4) (d := 1) (Nat.le_refl 1) N.fl
  have F := f_int2digits (w := w) (n := n + 122) (av := c.M) (b := c.m) h1 (Nat.le_trans N.m1 (by decide)) (hk ▸ (by decide : 5 ≤ 100))
  rw [show kM c.m c.M = 5 from hk, show digs c.m 5 c.M = c.fs from digs_dval c.m c.fs N.fl] at F
  exact F
theorem tail_fig (O : FnOk 234 fd body ["script"] lawL lawK) (L : LFb c.b) (N : LawN c) (hsd : sd = 1 ∨ sd = -1) (htu : tu = 1 ∨ tu = -1) (k : SVs w (n + 129) fd.scope lawK (c.S8 re sd tu) (body.drop 38) K) : SVs w (n + 129) fd.scope lawK (c.S7 re sd tu) (body.drop 34) K := by
  obtain ⟨oc, od, osl, e⟩ := O.at' w.w.params
  have e2 : (KK w.w.params).lookup 234 = some ⟨_, _, .func _, _⟩ := rfl
  rw [e2] at e
  have hb := O.body
  clear O e2
  cases e
  cases hb
  have h0 : (0 : Int) ≤ 0 ∧ (0 : Int) < 4 := by decide
  have h1 : (0 : Int) ≤ 1 ∧ (1 : Int) < 4 := by decide
  have h2 : (0 : Int) ≤ 2 ∧ (2 : Int) < 4 := by decide
  have h3 : (0 : Int) ≤ 3 ∧ (3 : Int) < 4 := by decide
  refine SVs.cons <| SV.asg <| EV.bin <| EV.bin <| EV.bin <| EV.sub <| EV.sub <| EV.var (ix 3 rfl) <| EV.cInt <| item_R L.sq h0 <| EV.cInt <| item_T L.sq h0 h1 <| EV.sub <| EV.sub <| EV.var (ix 3 rfl) <| EV.cInt <| item_R L.sq h2 <| EV.cInt <| item_T L.sq h2 h3 <| mul_i (small_mulA (T_abs L.wt 0 1)) <| EV.bin <| EV.sub <| EV.sub <| EV.var (ix 3 rfl) <| EV.cInt <| item_R L.sq h0 <| EV.cInt <| item_T L.sq h0 h2 <| EV.sub <| EV.sub <| EV.var (ix 3 rfl) <| EV.cInt <| item_R L.sq h1 <| EV.cInt <| item_T L.sq h1 h3 <| mul_i (small_mulA (T_abs L.wt 0 2)) <| add_i <| EV.bin <| EV.sub <| EV.sub <| EV.var (ix 3 rfl) <| EV.cInt <| item_R L.sq h0 <| EV.cInt <| item_T L.sq h0 h3 <| EV.sub <| EV.sub <| EV.var (ix 3 rfl) <| EV.cInt <| item_R L.sq h1 <| EV.cInt <| item_T L.sq h1 h2 <| mul_i (small_mulA (T_abs L.wt 0 3)) <| add_i ⟨_, (put 41 rfl), ?_⟩
  refine SVs.cons <| SV.asg <| EV.bin <| EV.call <| EV.con (ix 21 rfl) ⟨KeepOk.bi, EVs.cons <| EV.ofN <| EN.comp (κc := [("sum", .bi "sum")]) (ρc := [("row", .v none)]) ⟨rfl, by kernel_rfl, by decide +kernel, by kernel_rfl, by kernel_rfl, by decide +kernel, (fall ⟨by decide +kernel, .glo (by kernel_rfl) (by kernel_rfl) (ix 21 rfl)⟩ <| fall_nil)⟩ rfl ?_⟩
  refine IV.ofD <| EV.var (ix 3 rfl) <| IterD.list <| CB.map1 (xs := c.b.t) (inj := fun r : List Int => .list (dints r)) (f := fun r => .int r.sum) (by rw [L.sq.len]; exact sz 4) (fun r _ => EV.call <| EV.con (.head _) ⟨KeepOk.bi, EVs.cons <| EV.var (.head _) <| EVs.nil <| sum_l rfl⟩) ?_
  rw [fdiv_dints]
  refine EVs.nil <| sum_l <| EV.cInt <| fdiv_i (by decide) ⟨_, (put 42 rfl), ?_⟩
  have e5 : ([.int (pairsM c.b.t), .int 0, .int (edgesM c.b.t), .int 0, .int 1] : List D) = dints (dnats c.fs) := figs_im.trans (figs_n N)
  refine SVs.cons <| SV.asg <| EV.ofN <| EN.disp <| EVs.cons <| EV.var (ix 41 rfl) <| EVs.cons <| EV.cInt <| EVs.cons <| EV.var (ix 42 rfl) <| EVs.cons <| EV.cInt <| EVs.cons <| EV.cInt <| EVs.nil ⟨sz 5, as e5 ⟨_, (put 43 rfl), ?_⟩⟩
  obtain ⟨hqq, hts⟩ := pm1 hsd htu (c.M : Int)
  refine SVs.cons <| SV.if <| TV.to (b := false) ?_ <| noB rfl <| SVs.nil k
  refine TV.or <| TV.cmp <| EV.var (ix 40 rfl) <| EV.bin <| EV.var (ix 37 rfl) <| EV.var (ix 36 rfl) <| mul_i (small_mulA (sgn_abs hsd).1) <| ne_i <| tru_b <| noNe rfl ?_
  refine TV.or <| TV.cmp <| EV.call <| EV.con (ix 4 rfl) ⟨k42, EVs.cons <| EV.bin <| EV.bin <| EV.var (ix 38 rfl) <| EV.var (ix 37 rfl) <| mul_i (small_mulA (sgn_abs htu).1) <| EV.var (ix 39 rfl) <| mul_i (small_mulA hts) <| EVs.cons <| EV.var (ix 22 rfl) <| EVs.nil ?_⟩
  rw [hqq]
  exact CallOk.to (digs_fs N) <| EV.var (ix 43 rfl) <| ne_li <| tru_b <| noB rfl <| TV.orNil rfl
/-- the complement of the figures -/
theorem lack_int {c : LawC} (N : LawN c) : (2 : Int) ^ (5 * c.m) - 1 - (c.M : Int) = ((dval c.m (c.fs.map fun y => 2 ^ c.m - 1 - y) : Nat) : Int) := by
  have h := dval_lack c.m c.fs N.fl
  rw [cast_pow2, Nat.mul_comm, show 2 ^ (c.m * 5) = _ from h.symm, Int.natCast_add, Int.natCast_add, show ((1 : Nat) : Int) = 1 from rfl, Int.add_sub_cancel]
  exact Int.add_sub_cancel ..
theorem lack_lt {c : LawC} : ∀ y ∈ c.fs.map (fun y => 2 ^ c.m - 1 - y), y < 2 ^ c.m := fun y hy => by
  obtain ⟨z, _, rfl⟩ := List.mem_map.mp hy
  exact Nat.lt_of_le_of_lt (Nat.sub_le ..) (Nat.sub_lt (Nat.two_pow_pos _) Nat.one_pos)
theorem digs_lack {c : LawC} (N : LawN c) : CallOk w (n + 129) (.fn 42) [.int (dval c.m (c.fs.map fun y => 2 ^ c.m - 1 - y) : Nat), .int (c.m : Nat)] (kEq (.list (dints (dnats (c.fs.map fun y => 2 ^ c.m - 1 - y))))) := by
  have h1 : 1 ≤ c.m := Nat.le_trans (by decide) N.m0
  have h2 : 1 ≤ 2 ^ c.m - 1 - 1 := Nat.le_sub_of_add_le (Nat.le_sub_of_add_le (Nat.le_trans (by decide : 3 ≤ 2 ^ 14) (pow_mono N.m0)))
  have hk := kM_dval (n := c.m) h1 (l := c.f4.map fun y => 2 ^ c.m - 1 - y) (d := 2 ^ c.m - 1 - 1) h2 (lack_lt (c := c))
  have F := f_int2digits (w := w) (n := n + 122) (av := dval c.m (c.fs.map fun y => 2 ^ c.m - 1 - y)) (b := c.m) h1 (Nat.le_trans N.m1 (by decide)) (Nat.le_trans (Nat.le_of_eq hk) (by decide : 5 ≤ 100))
  rw [show kM c.m (dval c.m (c.fs.map fun y => 2 ^ c.m - 1 - y)) = 5 from hk, show digs c.m 5 _ = _ from digs_dval c.m (c.fs.map fun y => 2 ^ c.m - 1 - y) lack_lt] at F
  exact F
theorem lack_map {c : LawC} (N : LawN c) : (c.fs.map fun y : Nat => D.int (2 ^ c.m - 1 - (y : Int))) = dints (dnats (c.fs.map fun y => 2 ^ c.m - 1 - y)) := by
  rw [dints_dnats, List.map_map]
  refine List.map_congr_left fun y hy => congrArg D.int ?_
  have h := N.fl y hy
  rw [cast_pow2]
  generalize 2 ^ c.m = p at h
  show _ = ((p - 1 - y : Nat) : Int)
  omega
theorem tail_lacks (O : FnOk 234 fd body ["script"] lawL lawK) (N : LawN c) (hsd : sd = 1 ∨ sd = -1) (htu : tu = 1 ∨ tu = -1) : SVs w (n + 129) fd.scope lawK (c.S8 re sd tu) (body.drop 38) (kFn (kEq (.bool true))) := by
  obtain ⟨oc, od, osl, e⟩ := O.at' w.w.params
  have e2 : (KK w.w.params).lookup 234 = some ⟨_, _, .func _, _⟩ := rfl
  rw [e2] at e
  have hb := O.body
  clear O e2
  cases e
  cases hb
  obtain ⟨hqq, hts⟩ := pm1 hsd htu (c.M : Int)
  have hm := Nat.le_trans N.m1 (by decide : 1213 ≤ 10000)
  refine SVs.cons <| SV.asg <| EV.call <| EV.con (ix 4 rfl) ⟨k42, EVs.cons <| EV.bin <| EV.bin <| EV.bin <| EV.cInt <| EV.bin <| EV.cInt <| EV.var (ix 22 rfl) <| mul_i (small_mulA (by decide)) ?_⟩
  rw [show ((5 : Int) * (c.m : Int)) = ((5 * c.m : Nat) : Int) from (Int.natCast_mul 5 c.m).symm]
  refine pow_n (Nat.le_trans (Nat.mul_le_mul_left 5 N.m1) (by decide)) <| EV.cInt <| sub_i <| EV.bin <| EV.bin <| EV.var (ix 38 rfl) <| EV.var (ix 37 rfl) <| mul_i (small_mulA (sgn_abs htu).1) <| EV.var (ix 39 rfl) <| mul_i (small_mulA hts) <| sub_i <| EVs.cons <| EV.var (ix 22 rfl) <| EVs.nil ?_
  rw [hqq, lack_int N]
  refine CallOk.to (digs_lack N) ⟨_, (put 44 rfl), ?_⟩
  refine SVs.cons <| SV.ret <| EV.cmp <| EV.var (ix 44 rfl) <| EV.ofN <| EN.comp (κc := [("width", .int (c.m : Nat))]) (ρc := [("figure", .v none)]) ⟨rfl, by kernel_rfl, by decide +kernel, by kernel_rfl, by kernel_rfl, by decide +kernel, (fall ⟨by decide +kernel, .cap (by kernel_rfl) (.inl (by kernel_rfl)) (ix 22 rfl) rfl⟩ <| fall_nil)⟩ rfl ?_
  refine IV.ofD <| EV.var (ix 43 rfl) <| IterD.list ?_
  rw [dints_dnats c.fs]
  refine CB.map1 (xs := c.fs) (inj := fun y : Nat => D.int (y : Int)) (f := fun y => .int (2 ^ c.m - 1 - (y : Int))) (sz 5) (fun y _ => EV.bin <| EV.bin <| EV.bin <| EV.cInt <| EV.con (.head _) <| pow_n hm <| EV.cInt <| sub_i <| EV.var (.head _) <| sub_i rfl) ?_
  rw [lack_map N]
  refine eq_li ?_
  exact congrArg D.bool (decide_eq_true rfl)
end
theorem law_tail {b : LawB} {o1 o2 o3 : Option D} {fd : FuncData} {body : List Stmt} (O : FnOk 234 fd body ["script"] lawL lawK) (L : LFb b) : SVs w (n + 129) fd.scope lawK (lawR b o1 o2 o3) (body.drop 17) (kFn (kEq (.bool true))) := by
  refine tail_upper O L fun m h0 h1 => tail_dress O L fun Dt hD0 hdl hsl hD3 => tail_esc O hsl fun o4 o5 => ?_
  rw [esc_bared hD0 hD3]
  have N : LawN ⟨b, o1, o2, o3, m, Dt, o4, o5⟩ := law_nums (c := ⟨b, o1, o2, o3, m, Dt, o4, o5⟩) L h0 h1
  exact tail_plain O L hsl (tail_lower (c := ⟨b, o1, o2, o3, m, Dt, o4, o5⟩) O L N (tail_others O L (tail_div O N fun re sd tu hs ht => tail_fig O L N hs ht (tail_lacks O N hs ht))))
end
end Mine
end

noncomputable section
--# Wl4
namespace Mine
open PySem PySem.W PyProof.Rows PySem.Calls

noncomputable def cell0 : List (Nat × Int) := [(0, 877), (1, 381), (2, 1731), (3, 1196), (4, 0), (5, 17)]
/-- what the law's data are -/
structure LX (b : LawB) : Prop where
  nl : b.ns.length ≤ 63
  ce : b.cells = cell0.map fun a => a.2 + (pkI b.ns (a.1 : Nat)).sum
  to : b.tot = b.cells.sum
  ta : b.t = tabM (wsM b.cells)
  st : b.s = startM b.t b.tot
  lk : (lkM b.t).length ≤ 4
  l0 : 0 < (lkM b.t).length
  r : ∀ c, b.rv c = ((b.cells.getD c.toNat 0).fdiv 92).fmod 4
  tm : b.tot.fmod 3 = (b.tl : Int)
  bm : (b.tot.fdiv 3).fmod 4 = (b.bh : Int)
  pm : b.tot.fmod b.W.length = (b.pk : Int)
  sm : 1 + (b.tot.fdiv 9).fmod 3 = (b.sz1 : Int)
  f : LFb b
  w3 : b.bh ≤ 3
  pl : b.pk < b.W.length
  s1 : 1 ≤ b.sz1
  s3 : b.sz1 ≤ 3
theorem good_one {t : List (List Int)} {s : Int} (h : s ∈ corners) : Good t [s] ∧ freeN [s] ≤ 3 := by
  have h4 := corner_4 h
  refine ⟨⟨⟨List.cons_ne_nil _ _, fun c hc => List.mem_singleton.mp hc ▸ h4⟩, (by decide : 1 ≤ 4), fun h => absurd h (Nat.lt_irrefl 1)⟩, ?_⟩
  simp only [corners, List.mem_cons, List.not_mem_nil, or_false] at h
  rcases h with rfl | rfl | rfl | rfl <;> decide
theorem law_f {cells : List Int} (h : cells.length = 6) {tot : Int} {t : List (List Int)} (ht : t = tabM (wsM cells)) {s : Int} (hs : s = startM t tot) {W : List (List Int)} (hW : W = waysM t 3 [s]) {rv : Int → Int} (hr : ∀ c, 0 ≤ rv c ∧ rv c ≤ 3) {tl : Nat} (hl : tl < 3) : LF cells tot t s W rv tl := by
  have h6 := six_ws h
  obtain ⟨hsm, _, _⟩ := start_mem h6 tot
  obtain ⟨hsc, hsf⟩ := start_fur h6 hsm
  have hwt := tab_wt h6
  subst ht hs hW
  obtain ⟨hg, hf⟩ := good_one (t := tabM (wsM cells)) hsc
  exact ⟨h, tab_sq _, hwt, tab_sym _, hsc, hsf, fun x => mu_four h6 hsc x, hg, hf, rfl, waysM_len _ 3 _, (waysM_head _ 3 _).elim fun l e => e ▸ Nat.succ_pos _, ways_good hwt 3 _ hg hf (Nat.le_refl 4), hr, hl⟩
theorem fmod_at (a : Int) {m : Nat} (h : 0 < m) : a.fmod m = ((a.fmod m).toNat : Int) ∧ (a.fmod m).toNat < m := by
  have h1 := Int.fmod_nonneg_of_pos a (Int.ofNat_lt.mpr h)
  have e := Int.toNat_of_nonneg h1
  exact ⟨e.symm, Int.ofNat_lt.mp (e ▸ Int.fmod_lt_of_pos a (Int.ofNat_lt.mpr h))⟩
theorem law_data (ns : List Int) (hn : ns.length ≤ 63) : ∃ b : LawB, b.ns = ns ∧ LX b := by
  let cells := cell0.map fun a => a.2 + (pkI ns (a.1 : Nat)).sum
  let t := tabM (wsM cells)
  let s := startM t cells.sum
  let W := waysM t 3 [s]
  let rv : Int → Int := fun c => ((cells.getD c.toNat 0).fdiv 92).fmod 4
  have m3 := fmod_at cells.sum (m := 3) (by decide)
  have m4 := fmod_at (cells.sum.fdiv 3) (m := 4) (by decide)
  have m9 := fmod_at (cells.sum.fdiv 9) (m := 3) (by decide)
  have hr : ∀ c, 0 ≤ rv c ∧ rv c ≤ 3 := fun c => ⟨Int.fmod_nonneg_of_pos _ (by decide), Int.le_of_lt_add_one (Int.fmod_lt_of_pos _ (by decide))⟩
  have F : LF cells cells.sum t s W rv _ := law_f rfl rfl rfl rfl hr m3.2
  have mp := fmod_at cells.sum F.Wp
  have l0 := List.length_pos_iff.mpr (lk_ne (six_ws (cells := cells) rfl))
  exact ⟨⟨ns, cells, cells.sum, t, s, W, rv, _, _, _, 1 + ((cells.sum.fdiv 9).fmod 3).toNat⟩, rfl, hn, rfl, rfl, rfl, rfl, List.length_filter_le .., l0, fun _ => rfl, m3.1, m4.1, mp.1, congrArg (fun i : Int => 1 + i) m9.1, F, Nat.le_of_lt_succ m4.2, mp.2, Nat.le_add_right .., Nat.add_le_add_left (Nat.le_of_lt_succ m9.2) 1⟩
noncomputable def A0 (b : LawB) : Rho := initR ["script"] [.list (dints b.ns)] ++ noneR lawL
noncomputable def A1 (b : LawB) : Rho := putAt (putAt (A0 b) 1 (.v (some (.list (dints b.cells))))) 2 (.v (some (.int b.tot)))
noncomputable def A2 (b : LawB) : Rho := putAt (putAt (putAt (A1 b) 3 (.v (some (drows b.t)))) 4 (.v (some (.list (dints (lkM b.t)))))) 5 (.v (some (.int b.s)))
noncomputable def A3 (b : LawB) : Rho := putAt (putAt (putAt (A2 b) 6 (.v (some (drows b.W)))) 7 (.v (some (.list (dchars signL))))) 8 (.v (some (.list (b.W.map fun v => .list (dints (rowOf b.rv v))))))
noncomputable def A4 (b : LawB) : Rho := putAt (A3 b) 9 (.v (some (.list (b.W.map fun v => .str (S (white (rowOf b.rv v) b.tl))))))
noncomputable def A5 (b : LawB) : Rho := putAt (A4 b) 10 (.v (some (.list (b.W.map fun v => .str (S (lineV b.t b.rv b.tl v))))))
noncomputable def A6 (b : LawB) : Rho := putAt (putAt (A5 b) 11 (.v (some (.list (b.W.map fun v => (leadOf b.t b.rv b.tl v).d))))) 12 (.v (some (.list (dints (b.W.map (numV b.t))))))
theorem pick_kFrom {Q : D → Prop} {ds : List D} (k : Nat) (q : Q (.list (ds.drop k))) : Q (.list (pickD ds (some (k : Int)) none none)) := by rw [pick_from]; exact q
section
variable {b : LawB} (L : LX b)
include L
theorem LX.Wz {α : Type} {g : List Int → α} : (b.W.map g).length ≤ sizeLine := Nat.le_trans (Nat.le_of_eq (List.length_map _)) (Nat.le_trans L.f.Wl (sz 125))
theorem LX.row (v : List Int) : Row (rowOf b.rv v) := rowOf_row L.f.rv3 v
theorem LX.rowl {v : List Int} (h : v ∈ b.W) : (rowOf b.rv v).length ≤ 3 := Nat.le_trans (Nat.le_of_eq (rowOf_len ..)) (Nat.sub_le_of_le_add (L.f.good v h).len)
theorem LX.white {v : List Int} (h : v ∈ b.W) : (white (rowOf b.rv v) b.tl).length ≤ 14 := Nat.le_trans (white_le (L.row v) b.tl) (Nat.add_le_add (Nat.mul_le_mul_left 4 (L.rowl h)) (Nat.le_of_lt_succ L.f.tl3))
theorem LX.line {v : List Int} (h : v ∈ b.W) : (lineV b.t b.rv b.tl v).length ≤ 20 := by
  rw [lineV, lineOf_white, List.length_append, List.length_append]
  exact Nat.add_le_add (L.white h) (Nat.add_le_add_right (lastM_len b.t v) 3)
theorem LX.at {k : Nat} (hk : k ∈ List.range b.W.length) : ∃ v, v ∈ b.W ∧ b.W[k]? = some v ∧ b.W.getD k [] = v ∧ k < 1000000 := by
  have hk := List.mem_range.mp hk
  exact ⟨b.W[k], List.getElem_mem _, List.getElem?_eq_getElem hk, by rw [List.getD_eq_getElem?_getD, List.getElem?_eq_getElem hk]; rfl, Nat.lt_of_lt_of_le hk (Nat.le_trans L.f.Wl (by decide))⟩
theorem LX.rng : (List.range b.W.length).length ≤ sizeLine := Nat.le_trans (Nat.le_of_eq List.length_range) (Nat.le_trans L.f.Wl (sz 125))
theorem LX.six : b.cells.length = 6 := L.f.c6
theorem LX.cell {c : Int} (h : 0 ≤ c ∧ c < 4) : c < (b.cells.length : Int) := by rw [L.f.c6]; exact Int.lt_trans h.2 (by decide)
end
section
variable {w : Wd} {n : Nat} {sc : Scope} {κ : Env2} {ρ : Rho}
theorem range_W {b : LawB} (L : LX b) {x : Str} {p : Pos} {Q : List D → Prop} {α : Type} {g : List Int → α} (q : Q ((List.range b.W.length).map fun k : Nat => D.int k)) : CallI w n (.Name x p) (.ty "range") [.int ((b.W.map g).length : Nat)] Q := by
  refine range_1 (Int.natCast_nonneg _) (Int.lt_of_le_of_lt (Int.ofNat_le.mpr (Nat.le_trans (Nat.le_of_eq (List.length_map _)) L.f.Wl)) (by decide)) ?_
  rw [Int.toNat_natCast, List.length_map, arD_zero]; exact q
section
variable {b : LawB} {fd : FuncData} {body : List Stmt} {K : Fl → Rho → Prop}
theorem head_cells (O : FnOk 234 fd body ["script"] lawL lawK) (L : LX b) (k : SVs w (n + 129) fd.scope lawK (A1 b) (body.drop 2) K) : SVs w (n + 129) fd.scope lawK (A0 b) body K := by
  obtain ⟨oc, od, osl, e⟩ := O.at' w.w.params
  have e2 : (KK w.w.params).lookup 234 = some ⟨_, _, .func _, _⟩ := rfl
  rw [e2] at e
  have hb := O.body
  clear O e2
  cases e
  cases hb
  have hsz : (dints b.ns).length ≤ sizeLine := Nat.le_trans (Nat.le_of_eq (dints_len _)) (Nat.le_trans L.nl (sz 63))
  refine SVs.cons <| SV.asgComp (κc := [("script", .list (dints b.ns)), ("sum", .bi "sum")]) (ρc := [("k", .v none), ("cell", .v none)]) ⟨rfl, by kernel_rfl, by decide +kernel, by kernel_rfl, by kernel_rfl, by decide +kernel, (fall ⟨by decide +kernel, .cap (by kernel_rfl) (.inl (by kernel_rfl)) (.head _) rfl⟩ <| fall ⟨by decide +kernel, .glo (by kernel_rfl) (by kernel_rfl) (ix 21 rfl)⟩ <| fall_nil)⟩ rfl ?_
  refine IV.call <| EV.con (ix 14 rfl) ⟨KeepOk.ty, EVs.cons <| EV.ofN <| EN.disp <| EVs.cons <| EV.cInt <| EVs.cons <| EV.cInt <| EVs.cons <| EV.cInt <| EVs.cons <| EV.cInt <| EVs.cons <| EV.cInt <| EVs.cons <| EV.cInt <| EVs.nil ⟨sz 6, EVs.nil <| enumerate_i ?_⟩⟩
  refine CB.map2 (xs := cell0) (i1 := fun a : Nat × Int => .int (a.1 : Nat)) (i2 := fun a => .int a.2) (f := fun a => .int (a.2 + (pkI b.ns (a.1 : Nat)).sum)) (by decide +kernel) (sz 6) (fun a _ => ?_) ?_
  · refine EV.bin <| EV.var (ix 1 rfl) <| EV.call <| EV.con (ix 1 rfl) ⟨KeepOk.bi, EVs.cons <| EV.sliLs <| EV.con (.head _) ⟨_, rfl, hsz, EP.som <| EV.var (.head _) ⟨_, rfl, EP.non <| EV.cInt ⟨6, rfl, by decide, ?_⟩⟩⟩⟩
    rw [pkI_eq]
    exact EVs.nil <| sum_l <| add_i rfl
  have ec : cell0.map (fun a => D.int (a.2 + (pkI b.ns (a.1 : Nat)).sum)) = dints b.cells := by rw [L.ce, dints, List.map_map]; rfl
  rw [ec]
  refine ⟨_, (put 1 rfl), SVs.cons <| SV.asg <| EV.call <| EV.con (ix 21 rfl) ⟨KeepOk.bi, EVs.cons <| EV.var (ix 1 rfl) <| EVs.nil <| sum_l ?_⟩⟩
  rw [← L.to]
  exact ⟨_, (put 2 rfl), k⟩
theorem head_start (O : FnOk 234 fd body ["script"] lawL lawK) (L : LX b) (k : SVs w (n + 129) fd.scope lawK (A2 b) (body.drop 5) K) : SVs w (n + 129) fd.scope lawK (A1 b) (body.drop 2) K := by
  obtain ⟨oc, od, osl, e⟩ := O.at' w.w.params
  have e2 : (KK w.w.params).lookup 234 = some ⟨_, _, .func _, _⟩ := rfl
  rw [e2] at e
  have hb := O.body
  clear O e2
  cases e
  cases hb
  have FT := f_table (w := w) (n := n + 128) L.six
  rw [← L.ta] at FT
  refine SVs.cons <| SV.asg <| EV.call <| EV.con (ix 10 rfl) ⟨k172, EVs.cons <| EV.var (ix 1 rfl) <| EVs.nil <| CallOk.to FT ⟨_, (put 3 rfl), ?_⟩⟩
  refine SVs.cons <| SV.asgComp (κc := [("table", drows b.t), ("sum", .bi "sum")]) (ρc := [("corner", .v none)]) ⟨rfl, by kernel_rfl, by decide +kernel, by kernel_rfl, by kernel_rfl, by decide +kernel, (fall ⟨by decide +kernel, .cap (by kernel_rfl) (.inl (by kernel_rfl)) (ix 3 rfl) rfl⟩ <| fall ⟨by decide +kernel, .glo (by kernel_rfl) (by kernel_rfl) (ix 21 rfl)⟩ <| fall_nil)⟩ rfl ?_
  refine IV.call <| EV.con (ix 19 rfl) ⟨KeepOk.ty, EVs.cons <| EV.cInt <| EVs.nil <| range_1 (by decide) (by decide) ?_⟩
  refine CB.filt1 (inj := .int) (xs := corners) (f := fun c => .int c) (g := fun c => decide (0 < (b.t.getD c.toNat []).sum)) (sz 4) (fun c hc => TV.cmp <| EV.call <| EV.con (ix 1 rfl) ⟨KeepOk.bi, EVs.cons <| EV.sub <| EV.con (.head _) <| EV.var (.head _) <| item_R L.f.sq (corner_4 hc) <| EVs.nil <| sum_l <| EV.cInt <| gt_i <| tru_b rfl⟩) (fun c hc _ => EV.var (.head _) rfl) ?_
  refine ⟨_, (put 4 rfl), ?_⟩
  have hm := start_mem (six_ws L.six) b.tot
  rw [← L.ta] at hm
  refine SVs.cons <| SV.asg <| EV.sub <| EV.var (d := .list (dints (lkM b.t))) (ix 4 rfl) <| EV.bin <| EV.bin <| EV.var (ix 2 rfl) <| EV.cInt <| fdiv_i (by decide) <| EV.call <| EV.con (ix 16 rfl) ⟨KeepOk.bi, EVs.cons <| EV.var (d := .list (dints (lkM b.t))) (ix 4 rfl) <| EVs.nil <| len_l (Nat.le_trans (Nat.le_of_eq (dints_len _)) (Nat.le_trans L.lk (sz 4))) ?_⟩
  rw [dints_len]
  refine fmod_i (Int.ne_of_gt (Int.ofNat_lt.mpr L.l0)) <| item_i hm.2.1 hm.2.2 (Int.lt_trans hm.2.2 (Int.lt_of_le_of_lt (Int.ofNat_le.mpr L.lk) (by decide))) ?_
  refine as (congrArg D.int (L.st.symm : _ = b.s)) ⟨_, (put 5 rfl), k⟩
theorem head_runs (O : FnOk 234 fd body ["script"] lawL lawK) (L : LX b) (k : SVs w (n + 129) fd.scope lawK (A3 b) (body.drop 8) K) : SVs w (n + 129) fd.scope lawK (A2 b) (body.drop 5) K := by
  obtain ⟨oc, od, osl, e⟩ := O.at' w.w.params
  have e2 : (KK w.w.params).lookup 234 = some ⟨_, _, .func _, _⟩ := rfl
  rw [e2] at e
  have hb := O.body
  clear O e2
  cases e
  cases hb
  have FW := f_ways (w := w) (n := n + 124) L.f.sq 3 [b.s] (Nat.le_refl 3) L.f.gs.ok L.f.fs (Nat.le_refl 4)
  rw [← L.f.hW] at FW
  refine SVs.cons <| SV.asg <| EV.call <| EV.con (ix 12 rfl) ⟨k184, EVs.cons <| EV.ofN <| EN.disp <| EVs.cons <| EV.var (ix 5 rfl) <| EVs.nil ⟨sz 1, EVs.cons <| EV.var (ix 3 rfl) <| EVs.nil <| CallOk.to FW ⟨_, (put 6 rfl), ?_⟩⟩⟩
  refine SVs.cons <| SV.asg <| EV.call <| EV.con (ix 9 rfl) ⟨k167, EVs.nil <| CallOk.to f_signs ⟨_, (put 7 rfl), ?_⟩⟩
  refine SVs.cons <| SV.asgComp (κc := [("cells", .list (dints b.cells))]) (ρc := [("way", .v none)]) ⟨rfl, by kernel_rfl, by decide +kernel, by kernel_rfl, by kernel_rfl, by decide +kernel, (fall ⟨by decide +kernel, .cap (by kernel_rfl) (.inl (by kernel_rfl)) (ix 1 rfl) rfl⟩ <| fall_nil)⟩ rfl ?_
  refine IV.ofD <| EV.var (ix 6 rfl) <| IterD.list <| CB.map1 (xs := b.W) (inj := fun l : List Int => .list (dints l)) (f := fun v => .list (dints (rowOf b.rv v))) (Nat.le_trans L.f.Wl (sz 125)) (fun v hv => ?_) ⟨_, (put 8 rfl), k⟩
  have gv := L.f.good v hv
  refine EV.ofN <| EN.comp (κc := [("cells", .list (dints b.cells))]) (ρc := [("corner", .v none)]) ⟨rfl, by kernel_rfl, by decide +kernel, by kernel_rfl, by kernel_rfl, by decide +kernel, fall ⟨by decide +kernel, .capK (by kernel_rfl) (.inl (by kernel_rfl)) (.head _)⟩ fall_nil⟩ rfl ?_
  refine IV.ofD <| EV.sliL <| EV.var (.head _) ⟨_, rfl, Nat.le_trans (Nat.le_of_eq (dints_len _)) (Nat.le_trans gv.len (sz 4)), EP.som <| EV.cInt ⟨_, rfl, EP.non <| pick_kFrom 1 ?_⟩⟩
  rw [show (dints v).drop 1 = (v.drop 1).map D.int from List.map_drop.symm]
  refine IterD.list <| CB.map1 (xs := v.drop 1) (inj := D.int) (f := fun c => .int (b.rv c)) (Nat.le_trans (by rw [List.length_drop]; exact Nat.sub_le ..) (Nat.le_trans gv.len (sz 4))) (fun c hc => ?_) (congrArg D.list (List.map_map ..).symm)
  have hc4 := gv.ok.2 c (List.mem_of_mem_drop hc)
  exact EV.bin <| EV.bin <| EV.sub <| EV.con (.head _) <| EV.var (.head _) <| item_i hc4.1 (L.cell hc4) (Int.lt_trans hc4.2 (by decide)) <| EV.cInt <| fdiv_i (by decide) <| EV.cInt <| fmod_i (by decide) (congrArg D.int (L.r c).symm)
theorem head_heads (O : FnOk 234 fd body ["script"] lawL lawK) (L : LX b) (k : SVs w (n + 129) fd.scope lawK (A4 b) (body.drop 9) K) : SVs w (n + 129) fd.scope lawK (A3 b) (body.drop 8) K := by
  obtain ⟨oc, od, osl, e⟩ := O.at' w.w.params
  have e2 : (KK w.w.params).lookup 234 = some ⟨_, _, .func _, _⟩ := rfl
  rw [e2] at e
  have hb := O.body
  clear O e2
  cases e
  cases hb
  refine SVs.cons <| SV.asgComp (κc := [("total", .int b.tot)]) (ρc := [("row", .v none)]) ⟨rfl, by kernel_rfl, by decide +kernel, by kernel_rfl, by kernel_rfl, by decide +kernel, (fall ⟨by decide +kernel, .cap (by kernel_rfl) (.inl (by kernel_rfl)) (ix 2 rfl) rfl⟩ <| fall_nil)⟩ rfl ?_
  refine IV.ofD <| EV.var (ix 8 rfl) <| IterD.list <| CB.map1 (xs := b.W) (inj := fun v : List Int => .list (dints (rowOf b.rv v))) (f := fun v => .str (S (white (rowOf b.rv v) b.tl))) (Nat.le_trans L.f.Wl (sz 125)) (fun v hv => ?_) ⟨_, (put 9 rfl), k⟩
  have hv20 := L.white hv
  have hr := L.row v
  have hrl := L.rowl hv
  generalize rowOf b.rv v = row at hv20 hr hrl ⊢
  have hwd : white row b.tl = (row.map fun r => List.replicate r.toNat 32 ++ [9]).flatten ++ List.replicate b.tl 32 := congrArg (· ++ _) List.flatMap_def
  rw [hwd, List.length_append] at hv20
  have h1 := Nat.le_trans (Nat.le_add_right _ _) hv20
  refine EV.bin <| EV.meth <| EV.cStr ⟨_, meth_join, KeepOk.bi, EVs.cons <| EV.ofN <| EN.comp (κc := []) (ρc := [("run", .v none)]) ⟨rfl, by kernel_rfl, by decide +kernel, by kernel_rfl, by kernel_rfl, by decide +kernel, fun x d h => nomatch h⟩ rfl ?_⟩
  refine IV.ofD <| EV.var (.head _) <| IterD.list <| CB.map1 (xs := row) (inj := D.int) (f := fun r => .str (S (List.replicate r.toNat 32 ++ [9]))) (Nat.le_trans hrl (sz 3)) (fun r hrm => ?_) ?_
  · have h3 := hr r hrm
    refine EV.bin <| EV.bin <| EV.cStr <| EV.var (.head _) <| mul_c h3.1 (Int.le_trans h3.2 (by decide)) <| EV.cStr <| add_c (b := [9]) ?_ rfl
    rw [List.length_replicate]
    exact Nat.le_trans (Nat.add_le_add_right (Int.toNat_le.mpr h3.2) 1) (by decide)
  rw [show (row.map fun r => D.str (S (List.replicate r.toNat 32 ++ [9]))) = dchars (row.map fun r => List.replicate r.toNat 32 ++ [9]) by rw [dchars, List.map_map]; rfl]
  refine EVs.nil <| join_c (Nat.le_trans h1 (by decide)) <| EV.bin <| EV.cStr <| EV.bin <| EV.con (.head _) <| EV.cInt <| fmod_i (by decide) ?_
  refine as (congrArg D.int L.tm) <| mul_c (Int.natCast_nonneg _) (Int.ofNat_le.mpr (Nat.le_trans (Nat.le_of_lt L.f.tl3) (by decide))) <| add_c ?_ ?_
  · exact Nat.le_trans hv20 (by decide)
  · rw [hwd]; rfl
theorem head_page (O : FnOk 234 fd body ["script"] lawL lawK) (L : LX b) (k : SVs w (n + 129) fd.scope lawK (A5 b) (body.drop 10) K) : SVs w (n + 129) fd.scope lawK (A4 b) (body.drop 9) K := by
  obtain ⟨oc, od, osl, e⟩ := O.at' w.w.params
  have e2 : (KK w.w.params).lookup 234 = some ⟨_, _, .func _, _⟩ := rfl
  rw [e2] at e
  have hb := O.body
  clear O e2
  cases e
  cases hb
  refine SVs.cons <| SV.asgComp (κc := [("heads", .list (b.W.map fun v => .str (S (white (rowOf b.rv v) b.tl)))), ("_law_last", .fn 191), ("ways", drows b.W), ("table", drows b.t), ("signs", .list (dchars signL))]) (ρc := [("k", .v none)]) ⟨rfl, by kernel_rfl, by decide +kernel, by kernel_rfl, by kernel_rfl, by decide +kernel, (fall ⟨by decide +kernel, .cap (by kernel_rfl) (.inl (by kernel_rfl)) (ix 9 rfl) rfl⟩ <| fall ⟨by decide +kernel, (match g_law_last with | ⟨_, a, b⟩ => .top (by kernel_rfl) a b)⟩ <| fall ⟨by decide +kernel, .cap (by kernel_rfl) (.inl (by kernel_rfl)) (ix 6 rfl) rfl⟩ <| fall ⟨by decide +kernel, .cap (by kernel_rfl) (.inl (by kernel_rfl)) (ix 3 rfl) rfl⟩ <| fall ⟨by decide +kernel, .cap (by kernel_rfl) (.inl (by kernel_rfl)) (ix 7 rfl) rfl⟩ <| fall_nil)⟩ rfl ?_
  refine IV.call <| EV.con (ix 19 rfl) ⟨KeepOk.ty, EVs.cons <| EV.call <| EV.con (ix 16 rfl) ⟨KeepOk.bi, EVs.cons <| EV.var (ix 6 rfl) <| EVs.nil <| len_l L.Wz <| EVs.nil <| range_W L ?_⟩⟩
  refine CB.map1 (xs := List.range b.W.length) (inj := fun k : Nat => D.int (k : Int)) (f := fun k => .str (S (lineV b.t b.rv b.tl (b.W.getD k [])))) L.rng (fun k hk => ?_) ?_
  · obtain ⟨v, hv, hkv, hgd, hk⟩ := L.at hk
    rw [hgd]
    have hl1 : (white (rowOf b.rv v) b.tl).length + (lastM b.t v).length ≤ 17 := Nat.add_le_add (L.white hv) (lastM_len b.t v)
    refine EV.bin <| EV.bin <| EV.sub <| EV.con (.head _) <| EV.var (.head _) <| item_g hkv hk <| EV.call <| EV.con (ix 1 rfl) ⟨k191, EVs.cons <| EV.sub <| EV.con (ix 2 rfl) <| EV.var (.head _) <| item_g (g := fun r => D.list (dints r)) hkv hk <| EVs.cons <| EV.con (ix 3 rfl) <| EVs.cons <| EV.con (ix 4 rfl) <| EVs.nil <| CallOk.to (f_last (L.f.good v hv) L.f.sq) ?_⟩
    refine add_c (Nat.le_trans hl1 (by decide)) <| EV.cStr <| add_c (b := [120, 32, 9]) (by rw [List.length_append]; exact Nat.le_trans (Nat.add_le_add_right hl1 3) (by decide)) ?_
    rw [lineV, lineOf_white, List.append_assoc]
  rw [range_getD b.W [] fun v => D.str (S (lineV b.t b.rv b.tl v))]
  exact ⟨_, (put 10 rfl), k⟩
theorem head_leads (O : FnOk 234 fd body ["script"] lawL lawK) (L : LX b) (k : SVs w (n + 129) fd.scope lawK (A6 b) (body.drop 12) K) : SVs w (n + 129) fd.scope lawK (A5 b) (body.drop 10) K := by
  obtain ⟨oc, od, osl, e⟩ := O.at' w.w.params
  have e2 : (KK w.w.params).lookup 234 = some ⟨_, _, .func _, _⟩ := rfl
  rw [e2] at e
  have hb := O.body
  clear O e2
  cases e
  cases hb
  refine SVs.cons <| SV.asgComp (κc := [("Whitespace", .fn 146)]) (ρc := [("line", .v none)]) ⟨rfl, by kernel_rfl, by decide +kernel, by kernel_rfl, by kernel_rfl, by decide +kernel, (fall ⟨by decide +kernel, .glo (by kernel_rfl) (by kernel_rfl) (ix 1 rfl)⟩ <| fall_nil)⟩ rfl ?_
  refine IV.ofD <| EV.var (ix 10 rfl) <| IterD.list <| CB.map1 (xs := b.W) (inj := fun v : List Int => .str (S (lineV b.t b.rv b.tl v))) (f := fun v => (leadOf b.t b.rv b.tl v).d) (Nat.le_trans L.f.Wl (sz 125)) (fun v hv => EV.call <| EV.con (.head _) ⟨k146, EVs.cons <| EV.var (.head _) <| EVs.nil <| f_make (Nat.le_trans (L.line hv) (by decide))⟩) ⟨_, (put 11 rfl), ?_⟩
  refine SVs.cons <| SV.asgComp (κc := [("_law_sign_at", .fn 210), ("page", .list (b.W.map fun v => .str (S (lineV b.t b.rv b.tl v)))), ("leads", .list (b.W.map fun v => (leadOf b.t b.rv b.tl v).d))]) (ρc := [("k", .v none)]) ⟨rfl, by kernel_rfl, by decide +kernel, by kernel_rfl, by kernel_rfl, by decide +kernel, (fall ⟨by decide +kernel, (match g_law_sign_at with | ⟨_, a, b⟩ => .top (by kernel_rfl) a b)⟩ <| fall ⟨by decide +kernel, .cap (by kernel_rfl) (.inl (by kernel_rfl)) (ix 10 rfl) rfl⟩ <| fall ⟨by decide +kernel, .cap (by kernel_rfl) (.inl (by kernel_rfl)) (ix 11 rfl) rfl⟩ <| fall_nil)⟩ rfl ?_
  refine IV.call <| EV.con (ix 19 rfl) ⟨KeepOk.ty, EVs.cons <| EV.call <| EV.con (ix 16 rfl) ⟨KeepOk.bi, EVs.cons <| EV.var (ix 10 rfl) <| EVs.nil <| len_l L.Wz <| EVs.nil <| range_W L ?_⟩⟩
  refine CB.map1 (xs := List.range b.W.length) (inj := fun k : Nat => D.int (k : Int)) (f := fun k => .int (numV b.t (b.W.getD k []))) L.rng (fun k hk => ?_) ?_
  · obtain ⟨v, hv, hkv, hgd, hk⟩ := L.at hk
    rw [hgd]
    refine EV.sub <| EV.call <| EV.con (.head _) ⟨k210, EVs.cons <| EV.sub <| EV.con (ix 1 rfl) <| EV.var (.head _) <| item_g hkv hk <| EVs.cons <| fld_n (x := leadOf b.t b.rv b.tl v) <| EV.sub <| EV.con (ix 2 rfl) <| EV.var (.head _) <| item_g hkv hk ⟨rfl, EVs.nil ?_⟩⟩
    rw [show (leadOf b.t b.rv b.tl v).n = _ from ld_n (L.row v) b.tl (beh_last b.t v)]
    refine CallOk.to (f_sign_at (Nat.le_trans (L.line hv) (by decide))) <| EV.cInt <| item_t (ns := [_, _]) (by decide) (show (0 : Int) < ((2 : Nat) : Int) by decide) (by decide) ?_
    rw [← sign_lead L.f.wt (L.f.good v hv) (white (rowOf b.rv v) b.tl), lineV, lineOf_white]
    rfl
  rw [range_getD b.W [] fun v => D.int (numV b.t v), show (b.W.map fun v => D.int (numV b.t v)) = dints (b.W.map (numV b.t)) from (List.map_map ..).symm]
  exact ⟨_, (put 12 rfl), k⟩
theorem head_alone (O : FnOk 234 fd body ["script"] lawL lawK) (L : LX b) (k : SVs w (n + 129) fd.scope lawK (lawR b none none none) (body.drop 16) K) : SVs w (n + 129) fd.scope lawK (A6 b) (body.drop 12) K := by
  obtain ⟨oc, od, osl, e⟩ := O.at' w.w.params
  have e2 : (KK w.w.params).lookup 234 = some ⟨_, _, .func _, _⟩ := rfl
  rw [e2] at e
  have hb := O.body
  clear O e2
  cases e
  cases hb
  have h6 : ∀ {i : Int}, i < ((6 : Nat) : Int) → i < (b.cells.length : Int) := fun h => L.six.symm ▸ h
  have h4 := L.f.rv3 4
  have h5 := L.f.rv3 5
  have n4 : (b.rv 4).toNat ≤ 3 := Int.toNat_le.mpr h4.2
  have n5 : (b.rv 5).toNat ≤ 3 := Int.toNat_le.mpr h5.2
  refine SVs.cons <| SV.asg2s (hs2 := (by intro env h; cases env; subst h; rfl)) (h := EV.tup <| EVs.cons <| EV.ofN <| EN.disp <| EVs.cons <| EV.bin <| EV.bin <| EV.sub <| EV.var (ix 1 rfl) <| EV.cInt <| item_i (by decide) (h6 (by decide)) (by decide) <| EV.cInt <| fdiv_i (by decide) <| EV.cInt <| fmod_i (by decide) <|
    EVs.cons <| EV.bin <| EV.bin <| EV.sub <| EV.var (ix 1 rfl) <| EV.cInt <| item_i (by decide) (h6 (by decide)) (by decide) <| EV.cInt <| fdiv_i (by decide) <| EV.cInt <| fmod_i (by decide) <| EVs.nil ⟨sz 2,
    EVs.cons <| EV.bin <| EV.bin <| EV.var (ix 2 rfl) <| EV.cInt <| fdiv_i (by decide) <| EV.cInt <| fmod_i (by decide) <| EVs.nil ⟨sz 2, _, _, rfl, _, _, (put 14 rfl), (put 13 rfl), ?_⟩⟩)
  rw [L.bm, show ([D.int _, D.int _] : List D) = dints [b.rv 4, b.rv 5] from (congr (congrArg (fun x y : Int => [D.int x, D.int y]) (L.r 4)) (L.r 5)).symm]
  have a1 : (List.replicate (b.rv 4).toNat 32 ++ [9]).length ≤ 4 := by rw [List.length_append, List.length_replicate]; exact Nat.add_le_add_right n4 1
  have a2 : (List.replicate (b.rv 4).toNat 32 ++ [9] ++ List.replicate (b.rv 5).toNat 32).length ≤ 7 := by rw [List.length_append, List.length_replicate]; exact Nat.add_le_add a1 n5
  have a3 : (List.replicate (b.rv 4).toNat 32 ++ [9] ++ List.replicate (b.rv 5).toNat 32 ++ [9]).length ≤ 8 := by rw [List.length_append]; exact Nat.add_le_add_right a2 1
  have a4 : (List.replicate (b.rv 4).toNat 32 ++ [9] ++ List.replicate (b.rv 5).toNat 32 ++ [9] ++ List.replicate (b.bh : Int).toNat 32).length ≤ 11 := by rw [List.length_append, List.length_replicate]; exact Nat.add_le_add a3 L.w3
  refine SVs.cons <| SV.asg <| EV.call <| EV.con (ix 1 rfl) ⟨k146, EVs.cons <| EV.bin <| EV.bin <| EV.bin <| EV.bin <| EV.bin <| EV.bin <| EV.cStr <| EV.sub <| EV.var (ix 13 rfl) <| EV.cInt <| item_i (by decide) (show (0 : Int) < ((2 : Nat) : Int) by decide) (by decide) <| mul_c h4.1 (Int.le_trans h4.2 (by decide)) <| EV.cStr <| add_c (b := [9]) (by rw [List.length_replicate]; exact len2 n4 (by decide)) ?_⟩
  refine EV.bin <| EV.cStr <| EV.sub <| EV.var (ix 13 rfl) <| EV.cInt <| item_i (by decide) (show (1 : Int) < ((2 : Nat) : Int) by decide) (by decide) <| mul_c h5.1 (Int.le_trans h5.2 (by decide)) <| add_c (Nat.le_trans (Nat.add_le_add a1 (by rw [List.length_replicate]; exact n5)) (by decide)) ?_
  refine EV.cStr <| add_c (b := [9]) (len2 a2 (by decide)) ?_
  refine EV.bin <| EV.cStr <| EV.var (ix 14 rfl) <| mul_c (Int.natCast_nonneg _) (Int.ofNat_le.mpr (Nat.le_trans L.w3 (by decide))) <| add_c (Nat.le_trans (Nat.add_le_add a3 (by rw [List.length_replicate]; exact L.w3)) (by decide)) ?_
  refine EV.cStr <| add_c (b := [120]) (len2 a4 (by decide)) <| EVs.nil ?_
  have hal : lineOf [b.rv 4, b.rv 5] b.bh [120] = List.replicate (b.rv 4).toNat 32 ++ [9] ++ List.replicate (b.rv 5).toNat 32 ++ [9] ++ List.replicate (b.bh : Int).toNat 32 ++ [120] := by simp [lineOf]
  refine as (Q := fun l => CallOk w _ _ [D.str (S l)] _) hal.symm <| CallOk.to (f_make (by rw [hal, List.length_append]; exact Nat.le_trans (Nat.add_le_add_right a4 1) (by decide))) ⟨_, (put 15 rfl), ?_⟩
  show SVs w _ _ _ _ _ _
  refine SVs.cons <| SV.asg <| EV.call <| EV.con (ix 8 rfl) ⟨k203, EVs.cons <| EV.var (ix 13 rfl) <| EVs.cons <| EV.var (ix 14 rfl) <| EVs.nil <| CallOk.to f_columns ⟨_, (put 16 rfl), ?_⟩⟩
  refine SVs.cons <| SV.asg2s (hs2 := (by intro env h; cases env; subst h; rfl)) (h := EV.tup <| EVs.cons <| EV.bin <| EV.var (ix 2 rfl) <| EV.call <| EV.con (ix 16 rfl) ⟨KeepOk.bi, EVs.cons <| EV.var (ix 10 rfl) <| EVs.nil <| len_l L.Wz <| fmod_i (Int.ne_of_gt (Int.ofNat_lt.mpr (by rw [List.length_map]; exact L.f.Wp))) <|
    EVs.cons <| EV.bin <| EV.cInt <| EV.bin <| EV.bin <| EV.var (ix 2 rfl) <| EV.cInt <| fdiv_i (by decide) <| EV.cInt <| fmod_i (by decide) <| add_i <| EVs.nil ⟨sz 2, _, _, rfl, _, _, (put 18 rfl), (put 17 rfl), ?_⟩⟩)
  rw [List.length_map, L.pm, L.sm]
  exact k
end
end
end Mine
end

noncomputable section
--# Wl1
namespace Mine
open PySem PySem.W PyProof.Rows PySem.Calls

/-- a call from outside all frames -/
structure TopOk (w : Wd) (n : Nat) (a : Nat) (args : List D) (Q : D → Prop) : Prop where
  run : ∀ (A : Around) (G : Nat → Prop) (s : Shared) (vs : List Value), Bud A n → Inv w s → Gz w G s → RepL s.heap G vs args → wpAny (MM w) A (call (.ref a) vs) (Post w s G Q) NoE s
theorem TopOk.fn {w : Wd} {n : Nat} {a : Nat} {fd : FuncData} {body : List Stmt} {ps ls : List Str} {κ : Env2} {args : List D} {Q : D → Prop} (O : FnOk a fd body ps ls κ) (hlen : ps.length = args.length)
    (h : SVs w n fd.scope κ (initR ps args ++ noneR ls) body (kFn Q)) : TopOk w (n + 1) a args Q := ⟨fun A G s vs b i z ra => wpAny_call (fn_enterC O hlen b i z ra fun env W s₁ o => o.fin h)⟩

/-- the four levels' gaps of two lines -/
noncomputable def gapL (row : List Int) (tl : Int) (row' : List Int) (tl' : Int) : List Int := [lev row tl 1 - lev row' tl' 1, lev row tl 2 - lev row' tl' 2, lev row tl 3 - lev row' tl' 3, lev row tl 4 - lev row' tl' 4]
theorem bne_same {c d : Bool} (e : c = d) : (c != d) = false := by rw [e]; cases d <;> rfl
theorem sub_neg {a b : Int} : a - b < 0 ↔ a < b := ⟨fun h => Int.lt_of_sub_neg h, fun h => Int.sub_neg_of_lt h⟩
theorem sub_pos2 {a b : Int} : 0 < a - b ↔ b < a := ⟨fun h => Int.lt_of_sub_pos h, fun h => Int.sub_pos_of_lt h⟩
theorem sub_nil {a b : Int} : a - b = 0 ↔ a = b := Int.sub_eq_zero
section
variable {row row' : List Int} {tl tl' : Nat} {rest rest' : List Nat} (hr : Row row) (hr' : Row row') (hb : Beh rest) (hb' : Beh rest') (ht : tl ≤ 3) (ht' : tl' ≤ 3)
include hr hr' hb hb' ht ht'
theorem gap_less {m : Int} (hm : m ∈ gapL row tl row' tl') (h : ∀ a ∈ gapL row tl row' tl', a ≤ m) : lessM (ldM row tl rest) (ldM row' tl' rest') = decide (m < 0) := by
  rw [less_lev hr hr' hb hb' ht ht']
  refine decide_eq_decide.mpr (Iff.trans ?_ (max_neg hm h).symm)
  rw [sub_neg, sub_neg, sub_neg, sub_neg]
theorem gap_more {m : Int} (hm : m ∈ gapL row tl row' tl') (h : ∀ a ∈ gapL row tl row' tl', m ≤ a) : lessM (ldM row' tl' rest') (ldM row tl rest) = decide (m > 0) := by
  rw [less_lev hr' hr hb' hb ht' ht]
  refine decide_eq_decide.mpr (Iff.trans ?_ (min_pos hm h).symm)
  rw [sub_pos2, sub_pos2, sub_pos2, sub_pos2]
theorem gap_eq : decide ((ldM row tl rest).cnt = (ldM row' tl' rest').cnt ∧ (ldM row tl rest).tl = (ldM row' tl' rest').tl) = decide (gapL row tl row' tl' = [0, 0, 0, 0]) := by
  refine decide_eq_decide.mpr ((eq_lev hr hr' hb hb' ht ht').trans ?_)
  rw [gapL, List.cons.injEq, List.cons.injEq, List.cons.injEq, List.cons.injEq, sub_nil, sub_nil, sub_nil, sub_nil]
  exact ⟨fun h => ⟨h.1, h.2.1, h.2.2.1, h.2.2.2, rfl⟩, fun h => ⟨h.1, h.2.1, h.2.2.1, h.2.2.2.1⟩⟩
end
theorem cols_lev {row : List Int} (hr : Row row) (tl : Nat) : colsM row tl = [lev row tl 1, lev row tl 2, lev row tl 3, lev row tl 4] := by
  rw [colsM, ← colM_lev hr (tl : Int) (ts := 1) (by decide) (by decide), ← colM_lev hr (tl : Int) (ts := 2) (by decide) (by decide), ← colM_lev hr (tl : Int) (ts := 3) (by decide) (by decide), ← colM_lev hr (tl : Int) (ts := 4) (by decide) (by decide)]
  rfl
/-- what the page's loop looks at -/
noncomputable abbrev aloneB (b : LawB) : Ws := ldM [b.rv 4, b.rv 5] b.bh [120]
noncomputable abbrev leadB (b : LawB) (v : List Int) : Ws := leadOf b.t b.rv b.tl v
noncomputable abbrev gapB (b : LawB) (v : List Int) : List Int := gapL (rowOf b.rv v) b.tl [b.rv 4, b.rv 5] b.bh
structure RowX (b : LawB) (k : Nat) (v u : List Int) : Prop where
  hv : b.W[k]? = some v
  hu : b.W[b.pk]? = some u
  mv : v ∈ b.W
  mu : u ∈ b.W
  kb : k < 1000000
  pb : b.pk < 1000000
noncomputable def RR (b : LawB) (o1 o2 o3 : Option D) (k : Nat) (v : List Int) : Rho := putAt (putAt (putAt (lawR b o1 o2 o3) 19 (.v (some (.int (k : Nat))))) 20 (.v (some (.list (dints (colsM (rowOf b.rv v) b.tl)))))) 21 (.v (some (.list (dints (gapB b v)))))
inductive RowI (b : LawB) (ρ : Rho) : Prop
  | mk (o1 o2 o3 : Option D) (e : ρ = lawR b o1 o2 o3)
noncomputable def loopOf : List Stmt → List Stmt
  | .For _ _ b _ _ :: _ => b
  | _ => []
theorem beh_x : Beh [120] := ⟨120, [], rfl, by decide, by decide⟩
theorem num_at {b : LawB} {k : Nat} {v : List Int} (h : b.W[k]? = some v) : (b.W.map (numV b.t)).getD k 0 = numV b.t v ∧ k < (b.W.map (numV b.t)).length := by
  refine ⟨by rw [List.getD_eq_getElem?_getD, List.getElem?_map, h]; rfl, ?_⟩
  rw [List.length_map]; exact (List.getElem?_eq_some_iff.mp h).1
section
variable {b : LawB} (L : LX b)
include L
theorem LX.wide : Row [b.rv 4, b.rv 5] := fun r hr => by
  rcases List.mem_cons.mp hr with rfl | hr
  · exact L.f.rv3 4
  · exact List.mem_singleton.mp hr ▸ L.f.rv3 5
theorem LX.okV (v : List Int) : WsOk (leadB b v) := ld_ok (L.row v) (beh_last b.t v) (Nat.le_of_lt L.f.tl3)
theorem LX.okA : WsOk (aloneB b) := ld_ok L.wide beh_x L.w3
theorem LX.root {k : Nat} {v : List Int} (h : b.W[k]? = some v) : (k = 0 ∧ v.length ≤ 1) ∨ (k ≠ 0 ∧ 2 ≤ v.length) := by
  rw [L.f.hW] at h
  cases k with
  | zero => exact .inl ⟨rfl, Option.some.inj h ▸ Nat.le_refl 1⟩
  | succ k =>
    have hm : v ∈ (furM [b.s] b.t).flatMap (waysM b.t 2) := List.mem_of_getElem? (i := k) h
    obtain ⟨c, hc, hv⟩ := List.mem_flatMap.mp hm
    obtain ⟨d, _, rfl⟩ := List.mem_map.mp hc
    exact .inr ⟨Nat.succ_ne_zero k, waysM_long b.t 2 _ v hv⟩
theorem LX.eof {k : Nat} {v : List Int} (h : b.W[k]? = some v) (hv : v ∈ b.W) : decide (numV b.t v = 0) = decide ((k : Int) = 0) := by
  refine decide_eq_decide.mpr ?_
  unfold numV
  rcases L.root h with ⟨rfl, h1⟩ | ⟨h0, h2⟩
  · rw [if_pos h1]; exact ⟨fun _ => rfl, fun _ => rfl⟩
  · rw [if_neg (Nat.not_le_of_lt h2)]
    exact ⟨fun q => absurd ((L.f.good v hv).w h2).1 (by rw [q]; decide), fun q => absurd (Int.ofNat_eq_zero.mp q) h0⟩
theorem LX.same {v u : List Int} {ms ms' : List Int} (p1 : ms.Perm (rowOf b.rv v)) (s1 : ms.Pairwise (· ≤ ·)) (p2 : ms'.Perm (rowOf b.rv u)) (s2 : ms'.Pairwise (· ≤ ·)) : decide ((leadB b v).cnt = (leadB b u).cnt ∧ (leadB b v).tl = (leadB b u).tl) = decide (ms = ms') := by
  have hq := ld_eq (tl := b.tl) (L.row u) (beh_last b.t u)
  have hq2 := ld_eq (tl := b.tl) (L.row u) (beh_last b.t v)
  have e1 : (leadB b u).cnt = (ldM (rowOf b.rv u) b.tl (lastM b.t v ++ [120, 32, 9])).cnt := hq.1.trans hq2.1.symm
  have e2 : (leadB b u).tl = (ldM (rowOf b.rv u) b.tl (lastM b.t v ++ [120, 32, 9])).tl := hq.2.1.trans hq2.2.1.symm
  rw [e1, e2]
  exact decide_eq_decide.mpr (sort_eq (L.row v) (L.row u) (beh_last b.t v) (beh_last b.t v) p1 p2 s1 s2)
theorem LX.indent (v : List Int) : (colsM (rowOf b.rv v) b.tl).getD ((b.sz1 : Int) - 1).toNat 0 = indM (leadB b v) b.sz1 := by
  rw [leadB, leadOf, ind_lev (L.row v) (beh_last b.t v) L.s1 (Nat.le_trans L.s3 (by decide)), cols_lev (L.row v)]
  have h1 := L.s1
  have h3 := L.s3
  generalize b.sz1 = z at h1 h3
  match z, h1, h3 with
  | 1, _, _ => rfl
  | 2, _, _ => rfl
  | 3, _, _ => rfl
theorem LX.col1 : 0 ≤ (b.sz1 : Int) - 1 ∧ (b.sz1 : Int) - 1 < ((4 : Nat) : Int) := by
  have h1 := L.s1
  have h3 := L.s3
  omega
end
section
variable {w : Wd} {n : Nat} {sc : Scope} {κ : Env2} {ρ : Rho}
section
variable {b : LawB} {o1 o2 o3 : Option D} {fd : FuncData} {body : List Stmt} {K : Fl → Rho → Prop} {j : Nat} {v u : List Int}
theorem row_gaps (O : FnOk 234 fd body ["script"] lawL lawK) (L : LX b) (X : RowX b j v u) (k : SVs w (n + 129) fd.scope lawK (RR b o1 o2 o3 j v) ((loopOf (body.drop 16)).drop 2) K) : SVs w (n + 129) fd.scope lawK (putAt (lawR b o1 o2 o3) 19 (.v (some (.int (j : Nat))))) (loopOf (body.drop 16)) K := by
  obtain ⟨oc, od, osl, e⟩ := O.at' w.w.params
  have e2 : (KK w.w.params).lookup 234 = some ⟨_, _, .func _, _⟩ := rfl
  rw [e2] at e
  have hb := O.body
  clear O e2
  cases e
  cases hb
  refine SVs.cons <| SV.asg <| EV.call <| EV.con (ix 8 rfl) ⟨k203, EVs.cons <| EV.sub <| EV.var (ix 8 rfl) <| EV.var (ix 19 rfl) <| item_g X.hv X.kb <| EVs.cons <| EV.bin <| EV.var (ix 2 rfl) <| EV.cInt <| fmod_i (by decide) <| EVs.nil ?_⟩
  rw [L.tm]
  refine CallOk.to f_columns ⟨_, (put 20 rfl), ?_⟩
  refine SVs.cons <| SV.asgComp (κc := [("columns", .list (dints (colsM (rowOf b.rv v) b.tl))), ("beside", .list (dints (colsM [b.rv 4, b.rv 5] b.bh)))]) (ρc := [("j", .v none)]) ⟨rfl, by kernel_rfl, by decide +kernel, by kernel_rfl, by kernel_rfl, by decide +kernel, (fall ⟨by decide +kernel, .cap (by kernel_rfl) (.inl (by kernel_rfl)) (ix 20 rfl) rfl⟩ <| fall ⟨by decide +kernel, .cap (by kernel_rfl) (.inl (by kernel_rfl)) (ix 16 rfl) rfl⟩ <| fall_nil)⟩ rfl ?_
  refine IV.call <| EV.con (ix 19 rfl) ⟨KeepOk.ty, EVs.cons <| EV.cInt <| EVs.nil <| range_1 (by decide) (by decide) ?_⟩
  refine CB.map1 (xs := [0, 1, 2, 3]) (inj := fun k : Nat => D.int (k : Int)) (f := fun j => .int ((colsM (rowOf b.rv v) b.tl).getD j 0 - (colsM [b.rv 4, b.rv 5] b.bh).getD j 0)) (sz 4) (fun j hj => ?_) ?_
  · have hj4 : j < 4 := List.mem_range.mp (show j ∈ List.range 4 from hj)
    exact EV.bin <| EV.sub <| EV.con (.head _) <| EV.var (.head _) <| item_n (show j < 4 from hj4) (Nat.lt_trans hj4 (by decide)) <| EV.sub <| EV.con (ix 1 rfl) <| EV.var (.head _) <| item_n (show j < 4 from hj4) (Nat.lt_trans hj4 (by decide)) <| sub_i rfl
  have e : ([0, 1, 2, 3].map fun j : Nat => D.int ((colsM (rowOf b.rv v) b.tl).getD j 0 - (colsM [b.rv 4, b.rv 5] b.bh).getD j 0)) = dints (gapB b v) := by
    rw [cols_lev (L.row v), cols_lev L.wide]; rfl
  rw [e]
  exact ⟨_, (put 21 rfl), k⟩
theorem row_tabs (O : FnOk 234 fd body ["script"] lawL lawK) (L : LX b) (X : RowX b j v u) (k : SVs w (n + 129) fd.scope lawK (RR b o1 o2 o3 j v) ((loopOf (body.drop 16)).drop 3) K) : SVs w (n + 129) fd.scope lawK (RR b o1 o2 o3 j v) ((loopOf (body.drop 16)).drop 2) K := by
  obtain ⟨oc, od, osl, e⟩ := O.at' w.w.params
  have e2 : (KK w.w.params).lookup 234 = some ⟨_, _, .func _, _⟩ := rfl
  rw [e2] at e
  have hb := O.body
  clear O e2
  cases e
  cases hb
  refine SVs.cons <| SV.if <| TV.to (b := false) ?_ <| noB rfl <| SVs.nil k
  refine TV.or <| TV.cmp <| fld_nt (x := leadB b v) <| EV.sub <| EV.var (ix 11 rfl) <| EV.var (ix 19 rfl) <| item_g X.hv X.kb ⟨rfl, EV.call <| EV.con (ix 16 rfl) ⟨KeepOk.bi, EVs.cons <| EV.sub <| EV.var (ix 8 rfl) <| EV.var (ix 19 rfl) <| item_g X.hv X.kb <| EVs.nil <| len_l (Nat.le_trans (Nat.le_of_eq (dints_len _)) (Nat.le_trans (L.rowl X.mv) (sz 3))) <| ne_i <| tru_b <| noNe ?_ ?_⟩⟩
  · rw [dints_len]; exact (ld_eq (L.row v) (beh_last b.t v)).2.2.2
  refine TV.or <| TV.cmp <| EV.meth <| EV.sub <| EV.var (ix 11 rfl) <| EV.var (ix 19 rfl) <| item_g X.hv X.kb ⟨_, m_indent, k115, EVs.cons <| EV.var (ix 18 rfl) <| EVs.nil <| CallOk.to (f_indent (L.okV v) L.s1 (Nat.le_trans L.s3 (by decide))) ?_⟩
  exact EV.sub <| EV.var (ix 20 rfl) <| EV.bin <| EV.var (ix 18 rfl) <| EV.cInt <| sub_i <| item_i L.col1.1 L.col1.2 (Int.lt_trans L.col1.2 (by decide)) <| ne_i <| tru_b <| noNe (L.indent v).symm <| TV.orNil rfl
theorem row_less (O : FnOk 234 fd body ["script"] lawL lawK) (L : LX b) (X : RowX b j v u) (k : SVs w (n + 129) fd.scope lawK (RR b o1 o2 o3 j v) ((loopOf (body.drop 16)).drop 4) K) : SVs w (n + 129) fd.scope lawK (RR b o1 o2 o3 j v) ((loopOf (body.drop 16)).drop 3) K := by
  obtain ⟨oc, od, osl, e⟩ := O.at' w.w.params
  have e2 : (KK w.w.params).lookup 234 = some ⟨_, _, .func _, _⟩ := rfl
  rw [e2] at e
  have hb := O.body
  clear O e2
  cases e
  cases hb
  refine SVs.cons <| SV.if <| TV.to (b := false) ?_ <| noB rfl <| SVs.nil k
  refine TV.or <| TV.cmp <| EV.meth <| EV.sub <| EV.var (ix 11 rfl) <| EV.var (ix 19 rfl) <| item_g X.hv X.kb ⟨_, m_less, k136, EVs.cons <| EV.var (ix 15 rfl) <| EVs.nil <| CallOk.to (f_less (L.okV v) L.okA) ?_⟩
  refine EV.cmp <| EV.call <| EV.con (ix 17 rfl) ⟨KeepOk.bi, EVs.cons <| EV.var (ix 21 rfl) <| EVs.nil <| max_l (show 0 < 4 by decide) fun mx h1 h2 => EV.cInt <| lt_i <| isNot_b <| tru_b <| noNot (gap_less (L.row v) L.wide (beh_last b.t v) beh_x (Nat.le_of_lt L.f.tl3) L.w3 h1 h2) ?_⟩
  refine TV.or <| TV.cmp <| EV.meth <| EV.var (ix 15 rfl) ⟨_, m_less, k136, EVs.cons <| EV.sub <| EV.var (ix 11 rfl) <| EV.var (ix 19 rfl) <| item_g X.hv X.kb <| EVs.nil <| CallOk.to (f_less L.okA (L.okV v)) ?_⟩
  exact EV.cmp <| EV.call <| EV.con (ix 18 rfl) ⟨KeepOk.bi, EVs.cons <| EV.var (ix 21 rfl) <| EVs.nil <| min_l (show 0 < 4 by decide) fun mx h1 h2 => EV.cInt <| gt_i <| isNot_b <| tru_b <| noNot (gap_more (L.row v) L.wide (beh_last b.t v) beh_x (Nat.le_of_lt L.f.tl3) L.w3 h1 h2) <| TV.orNil rfl⟩
theorem row_equal (O : FnOk 234 fd body ["script"] lawL lawK) (L : LX b) (X : RowX b j v u) (k : SVs w (n + 129) fd.scope lawK (RR b o1 o2 o3 j v) ((loopOf (body.drop 16)).drop 6) K) : SVs w (n + 129) fd.scope lawK (RR b o1 o2 o3 j v) ((loopOf (body.drop 16)).drop 4) K := by
  obtain ⟨oc, od, osl, e⟩ := O.at' w.w.params
  have e2 : (KK w.w.params).lookup 234 = some ⟨_, _, .func _, _⟩ := rfl
  rw [e2] at e
  have hb := O.body
  clear O e2
  cases e
  cases hb
  refine SVs.cons <| SV.if <| TV.to (b := false) ?_ <| noB rfl <| SVs.nil <| SVs.cons <| SV.if <| TV.to (b := false) ?_ <| noB rfl <| SVs.nil k
  · refine TV.cmp <| EV.meth <| EV.sub <| EV.var (ix 11 rfl) <| EV.var (ix 19 rfl) <| item_g X.hv X.kb ⟨_, m_equal, k122, EVs.cons <| EV.var (ix 15 rfl) <| EVs.nil <| CallOk.to f_equal ?_⟩
    exact EV.cmp <| EV.var (ix 21 rfl) <| EV.ofN <| EN.disp <| EVs.cons <| EV.cInt <| EVs.cons <| EV.cInt <| EVs.cons <| EV.cInt <| EVs.cons <| EV.cInt <| EVs.nil ⟨sz 4, eq_li (ys := [0, 0, 0, 0]) <| isNot_b <| tru_b <| bne_same (gap_eq (L.row v) L.wide (beh_last b.t v) beh_x (Nat.le_of_lt L.f.tl3) L.w3)⟩
  · refine TV.cmp <| EV.meth <| EV.sub <| EV.var (ix 11 rfl) <| EV.var (ix 19 rfl) <| item_g X.hv X.kb ⟨_, m_equal, k122, EVs.cons <| EV.sub <| EV.var (ix 11 rfl) <| EV.var (ix 17 rfl) <| item_g X.hu X.pb <| EVs.nil <| CallOk.to f_equal ?_⟩
    exact EV.cmp <| EV.call <| EV.con (ix 20 rfl) ⟨KeepOk.bi, EVs.cons <| EV.sub <| EV.var (ix 8 rfl) <| EV.var (ix 19 rfl) <| item_g X.hv X.kb <| EVs.nil <| sorted_l (Nat.lt_of_le_of_lt (L.rowl X.mv) (by decide)) fun ms p1 p2 => EV.call <| EV.con (ix 20 rfl) ⟨KeepOk.bi, EVs.cons <| EV.sub <| EV.var (ix 8 rfl) <| EV.var (ix 17 rfl) <| item_g X.hu X.pb <| EVs.nil <| sorted_l (Nat.lt_of_le_of_lt (L.rowl X.mu) (by decide)) fun ms' p1' p2' => eq_li <| isNot_b <| tru_b <| bne_same (L.same p1 p2 p1' p2')⟩⟩
theorem row_eof (O : FnOk 234 fd body ["script"] lawL lawK) (L : LX b) (X : RowX b j v u) (k : K .next (RR b o1 o2 o3 j v)) : SVs w (n + 129) fd.scope lawK (RR b o1 o2 o3 j v) ((loopOf (body.drop 16)).drop 6) K := by
  obtain ⟨oc, od, osl, e⟩ := O.at' w.w.params
  have e2 : (KK w.w.params).lookup 234 = some ⟨_, _, .func _, _⟩ := rfl
  rw [e2] at e
  have hb := O.body
  clear O e2
  cases e
  cases hb
  obtain ⟨e1, l1⟩ := num_at X.hv
  obtain ⟨e2, l2⟩ := num_at X.hu
  refine SVs.cons <| SV.if <| TV.to (b := false) ?_ <| noB rfl <| SVs.nil <| SVs.nil k
  refine TV.or <| TV.cmp <| EV.call <| EV.con (.head _) ⟨k160, EVs.cons <| EV.sub <| EV.var (ix 12 rfl) <| EV.var (ix 19 rfl) <| item_n l1 X.kb <| EVs.nil <| CallOk.to f_iseof <| EV.cmp <| EV.var (ix 19 rfl) <| EV.cInt <| eq_i <| isNot_b <| tru_b <| noNot (by rw [e1]; exact L.eof X.hv X.mv) ?_⟩
  refine TV.or <| TV.cmp <| EV.call <| EV.con (.head _) ⟨k160, EVs.cons <| EV.bin <| EV.sub <| EV.var (ix 12 rfl) <| EV.var (ix 19 rfl) <| item_n l1 X.kb <| EV.sub <| EV.var (ix 12 rfl) <| EV.var (ix 17 rfl) <| item_n l2 X.pb <| sub_i <| EVs.nil <| CallOk.to f_iseof ?_⟩
  exact EV.cmp <| EV.sub <| EV.var (ix 12 rfl) <| EV.var (ix 19 rfl) <| item_n l1 X.kb <| EV.sub <| EV.var (ix 12 rfl) <| EV.var (ix 17 rfl) <| item_n l2 X.pb <| eq_i <| isNot_b <| tru_b <| noNot (decide_eq_decide.mpr sub_nil) <| TV.orNil rfl
theorem rows_ok (O : FnOk 234 fd body ["script"] lawL lawK) (L : LX b) (k : ∀ o1 o2 o3, SVs w (n + 129) fd.scope lawK (lawR b o1 o2 o3) (body.drop 17) (kFn (kEq (.bool true)))) : SVs w (n + 129) fd.scope lawK (lawR b none none none) (body.drop 16) (kFn (kEq (.bool true))) := by
  have rows : ∀ (K : Fl → Rho → Prop) (j : Nat) (v u : List Int) (o1 o2 o3 : Option D), RowX b j v u → K .next (RR b o1 o2 o3 j v) → SVs w (n + 129) fd.scope lawK (putAt (lawR b o1 o2 o3) 19 (.v (some (.int (j : Nat))))) (loopOf (body.drop 16)) K :=
    fun K j v u o1 o2 o3 X h => row_gaps O L X <| row_tabs O L X <| row_less O L X <| row_equal O L X <| row_eof O L X h
  obtain ⟨oc, od, osl, e⟩ := O.at' w.w.params
  have e2 : (KK w.w.params).lookup 234 = some ⟨_, _, .func _, _⟩ := rfl
  rw [e2] at e
  have hb := O.body
  clear O e2
  cases e
  cases hb
  refine SVs.join (RowI b) ?_ ?_
  · refine SV.forM (inj := fun k : Nat => D.int k) (xs := List.range b.W.length) (fun _ _ => RowI b) ?_ ?_ (fun _ h => h)
    · exact IV.call <| EV.con (ix 19 rfl) ⟨KeepOk.ty, EVs.cons <| EV.call <| EV.con (ix 16 rfl) ⟨KeepOk.bi, EVs.cons <| EV.var (ix 10 rfl) <| EVs.nil <| len_l L.Wz <| EVs.nil <| range_W L ⟨rfl, none, none, none, rfl⟩⟩⟩
    · rintro done j rest _ hx ⟨o1, o2, o3, rfl⟩
      obtain ⟨v, mv, hv, _, kb⟩ := L.at (mem_done hx)
      obtain ⟨u, mu, hu, _, pb⟩ := L.at (List.mem_range.mpr L.pl)
      exact ⟨_, AS.name (put 19 rfl), rows _ j v u o1 o2 o3 ⟨hv, hu, mv, mu, kb, pb⟩ ⟨some (.int (j : Nat)), _, _, rfl⟩⟩
  · rintro _ ⟨o1, o2, o3, rfl⟩
    exact k o1 o2 o3
end
theorem f_law {ns : List Int} (hns : ns.length ≤ 63) : TopOk w (n + 130) 234 [.list (dints ns)] (kEq (.bool true)) := by
  have O : FnOk 234 _ _ ["script"] (("cells" :: "total" :: "table" :: "linked" :: "start" :: "ways" :: "signs" :: "runs" :: "heads" :: "page" :: "leads" :: "numbers" :: "wide" :: "behind" :: "alone" :: "beside" :: "pick" :: "size" :: "k" :: "columns" :: "gaps" :: "width" :: "upper" :: "pieces" :: "dressed" :: "shown" :: "kept" :: "whole" :: "bared" :: "place" :: "sign" :: "plain" :: "lower" :: "others" :: "net" :: "rest" :: "side" :: "turn" :: "quotient" :: "left" :: "pairs" :: "edges" :: "figures" :: "lacks" :: []) : List Str) ((("ISEOF", .fn 160) :: ("Whitespace", .fn 146) :: ("_check_parenthesis", .fn 84) :: ("_digits2int", .fn 49) :: ("_int2digits", .fn 42) :: ("_iter_escaped_chars", .fn 70) :: ("_law_by_page", .fn 222) :: ("_law_by_text", .fn 229) :: ("_law_columns", .fn 203) :: ("_law_signs", .fn 167) :: ("_law_table", .fn 172) :: ("_law_text", .fn 196) :: ("_law_ways", .fn 184) :: ("_strip_quoted_realnames", .fn 77) :: ("enumerate", .ty "enumerate") :: ("int_divmod", .fn 63) :: ("len", .bi "len") :: ("max", .bi "max") :: ("min", .bi "min") :: ("range", .ty "range") :: ("sorted", .bi "sorted") :: ("sum", .bi "sum") :: []) : Env2) := ⟨fun P => ⟨_, _, _, rfl⟩, rfl, rfl, rfl, rfl, rfl, rfl, rfl, by intro P; kernel_rfl, all1 (fun a => rfl), by decide +kernel, by kernel_rfl, (fall ⟨by kernel_rfl, g_ISEOF⟩ <| fall ⟨by kernel_rfl, g_Whitespace⟩ <| fall ⟨by kernel_rfl, g_check_parenthesis⟩ <| fall ⟨by kernel_rfl, g_digits2int⟩ <| fall ⟨by kernel_rfl, g_int2digits⟩ <| fall ⟨by kernel_rfl, g_iter_escaped_chars⟩ <| fall ⟨by kernel_rfl, g_law_by_page⟩ <| fall ⟨by kernel_rfl, g_law_by_text⟩ <| fall ⟨by kernel_rfl, g_law_columns⟩ <| fall ⟨by kernel_rfl, g_law_signs⟩ <| fall ⟨by kernel_rfl, g_law_table⟩ <| fall ⟨by kernel_rfl, g_law_text⟩ <| fall ⟨by kernel_rfl, g_law_ways⟩ <| fall ⟨by kernel_rfl, g_strip_quoted_realnames⟩ <| fall ⟨by kernel_rfl, g_enumerate⟩ <| fall ⟨by kernel_rfl, g_int_divmod⟩ <| fall ⟨by kernel_rfl, g_len⟩ <| fall ⟨by kernel_rfl, g_max⟩ <| fall ⟨by kernel_rfl, g_min⟩ <| fall ⟨by kernel_rfl, g_range⟩ <| fall ⟨by kernel_rfl, g_sorted⟩ <| fall ⟨by kernel_rfl, g_sum⟩ <| fall_nil)⟩
  obtain ⟨b, rfl, L⟩ := law_data ns hns
  exact TopOk.fn O rfl <| head_cells O L <| head_start O L <| head_runs O L <| head_heads O L <| head_page O L <| head_leads O L <| head_alone O L <| rows_ok O L fun _ _ _ => law_tail O L.f
end
end Mine
end

noncomputable section
--# Fin1
namespace Mine
open PySem PySem.W PyProof.Rows PySem.Calls

/-- the heap without one object -/
noncomputable def wiped (h : Heap) (a : Nat) : Heap := { h with objs := h.objs.setIfInBounds a { cls := .none, data := .freed } }
theorem wiped_self (h : Heap) (a : Nat) : (wiped h a).get? a = none := by
  unfold wiped Heap.get?
  simp only [Array.getElem?_setIfInBounds_self]
  by_cases ha : a < h.objs.size
  · simp [ha]
  · simp [ha]
theorem wiped_ne {h : Heap} {a b : Nat} (hb : b ≠ a) : (wiped h a).get? b = h.get? b := by
  unfold wiped Heap.get?
  rw [Array.getElem?_setIfInBounds_ne (Ne.symm hb)]
theorem kk_nolist : ∀ P, ((KK P).all fun p => match p.2.cls with | .type "list" => false | _ => true) = true := fun P => by kernel_rfl
theorem ns_some_of {K : Frag} {h : Heap} {N : Nat} {mg : Str → Option Value} {x : Str} {v : Value} (X : K.In h) (G : h.Ns N mg) (e : nsIn K N x = some (some v)) : mg x = some v := by
  obtain ⟨o, es, ep, ho, hd, _, hf⟩ := G
  unfold nsIn at e
  split at e
  · rename_i c d es' n' sl q
    have := X _ _ q
    rw [ho] at this
    cases this
    cases hd
    split at e
    · rename_i en he
      injection e with e; injection e with e
      rw [← hf]
      unfold nsFind findBy
      rw [← Array.find?_toList, he, ← e]
      rfl
    · split at e <;> cases e
  · cases e
theorem law_fn : ∀ P, nsIn (KK P) 3 "law" = some (some (.ref 234)) := fun P => by kernel_rfl
end Mine
end

noncomputable section
--# Fin2
namespace Mine
open PySem PySem.W PyProof.Rows PySem.Calls

-- The names that the head's pieces would bear if they were laid a second time, beside their place in the proof: that would more than double
-- the compiled file (74 MB). Held here, nothing is laid twice. No proof uses these.
theorem the_law.tw3166220447557754042 : True := trivial
theorem the_law.tw15068483726869450994 : True := trivial
theorem the_law.tw9509402559216657307 : True := trivial
theorem the_law.tw3214546488821582977 : True := trivial
theorem the_law.tw7844322975474967751 : True := trivial
theorem the_law.tw13099642499205706691 : True := trivial
theorem the_law.tw5730065682760082289 : True := trivial
theorem the_law.tw10957323901900120582 : True := trivial
theorem the_law.tw3290477863805542312 : True := trivial
theorem the_law.tw15848123043830284238 : True := trivial
theorem the_law.tw16329692488661272458 : True := trivial
theorem the_law.tw3266176959643546219 : True := trivial
theorem the_law.tw2351036866090801108 : True := trivial
theorem the_law.tw9513094276637159986 : True := trivial
theorem the_law.tw9662199391536694080 : True := trivial
theorem the_law.tw6991784402927455554 : True := trivial
theorem the_law.tw18092724058291186079 : True := trivial
theorem the_law.tw7185408633058302836 : True := trivial
theorem the_law.tw8413619747877046783 : True := trivial
theorem the_law.tw7193616998288756383 : True := trivial
theorem the_law.tw2014615519337577589 : True := trivial
theorem the_law.tw11760247714993037911 : True := trivial
theorem the_law.tw14593224459956405658 : True := trivial
theorem the_law.tw10096350936056097662 : True := trivial
theorem the_law.tw16487676410852305797 : True := trivial
theorem the_law.tw2551803567163112939 : True := trivial
theorem the_law.tw12577805726838946361 : True := trivial
theorem the_law.tw12349082912446496122 : True := trivial
theorem the_law.tw7111807970030212797 : True := trivial
theorem the_law.tw8570710654195576154 : True := trivial
theorem the_law.tw7904798113526840349 : True := trivial
theorem the_law.tw82921918446581218 : True := trivial
theorem the_law.tw11856851594979099062 : True := trivial
theorem the_law.tw5499025877086160063 : True := trivial
theorem the_law.tw1562361124601489242 : True := trivial
theorem the_law.tw16871154336842055968 : True := trivial
theorem the_law.tw12606151346926198799 : True := trivial
theorem the_law.tw8137294520469548044 : True := trivial
theorem the_law.tw731705488494360904 : True := trivial
theorem the_law.tw1354312183740885144 : True := trivial
theorem the_law.tw17281600702594374121 : True := trivial
theorem the_law.tw14428311245317613357 : True := trivial
theorem the_law.tw15870904153958046044 : True := trivial
theorem the_law.tw9859307989347215649 : True := trivial
theorem the_law.tw8331984014033913864 : True := trivial
theorem the_law.tw15942392696418298009 : True := trivial
theorem the_law.tw1728152126975895757 : True := trivial
theorem the_law.tw4069472000303756957 : True := trivial
theorem the_law.tw12945678121534553798 : True := trivial
theorem the_law.tw10325301038439880256 : True := trivial
theorem the_law.tw11430045386187222060 : True := trivial
theorem the_law.tw540225284365443433 : True := trivial
theorem the_law.tw15307435698254633755 : True := trivial
theorem the_law.tw1306741236247948570 : True := trivial
theorem the_law.tw17085786880020746803 : True := trivial
theorem the_law.tw13154856293766785013 : True := trivial
theorem the_law.tw18273041722104860537 : True := trivial
theorem the_law.tw12865828849105230136 : True := trivial
theorem the_law.tw1155102277922631273 : True := trivial
theorem the_law.tw6666653670115157055 : True := trivial
theorem the_law.tw17532531631275021316 : True := trivial
theorem the_law.tw8601590717196516477 : True := trivial
theorem the_law.tw10647980319389551907 : True := trivial
theorem the_law.tw16433976589980439510 : True := trivial
theorem the_law.tw16416946617400786151 : True := trivial
theorem the_law.tw18092724698424538291 : True := trivial
theorem the_law.tw2021051265280021242 : True := trivial
theorem the_law.tw4532121281032880110 : True := trivial
theorem the_law.tw6268972802955982645 : True := trivial
theorem the_law.tw18069425322602114768 : True := trivial
theorem the_law.tw9250985243499408423 : True := trivial
theorem the_law.tw5270108669829435205 : True := trivial
theorem the_law.tw1147188357665955894 : True := trivial
theorem the_law.tw15288458813945624500 : True := trivial
theorem the_law.tw10869645151463372199 : True := trivial
theorem the_law.tw10085195953587388118 : True := trivial
theorem the_law.tw142772214351944594 : True := trivial
theorem the_law.tw15969284615626939092 : True := trivial
theorem the_law.tw5351138776452808650 : True := trivial
theorem the_law.tw443129182102525746 : True := trivial
theorem the_law.tw16121837554127818616 : True := trivial
theorem the_law.tw4587509009961926245 : True := trivial
theorem the_law.tw7788389806307037101 : True := trivial
theorem the_law.tw5582780411824514506 : True := trivial
theorem the_law.tw7635563269094132997 : True := trivial
theorem the_law.tw1116667106599032546 : True := trivial
theorem the_law.tw14503570835382411459 : True := trivial
theorem the_law.tw4517300290296804734 : True := trivial
theorem the_law.tw8612342340422094196 : True := trivial
theorem the_law.tw9518725994942411554 : True := trivial
theorem the_law.tw435927928288568395 : True := trivial
theorem the_law.tw12391046505477063477 : True := trivial
theorem the_law.tw10016583781247707904 : True := trivial
theorem the_law.tw8714883993954106674 : True := trivial
theorem the_law.tw14262571012277367400 : True := trivial
theorem the_law.tw5010861076388101616 : True := trivial
theorem the_law.tw2226282248687341299 : True := trivial
theorem the_law.tw14316272753551919594 : True := trivial
theorem the_law.tw12336354902605132010 : True := trivial
theorem the_law.tw9203830145802291437 : True := trivial
theorem the_law.tw5955822360617766851 : True := trivial
theorem the_law.tw7892253632141755684 : True := trivial
theorem the_law.tw16178966093472866963 : True := trivial
theorem the_law.tw5177406095525685233 : True := trivial
theorem the_law.tw7971439479031614193 : True := trivial
theorem the_law.tw8211552276665866742 : True := trivial
theorem the_law.tw8495659397586899126 : True := trivial
theorem the_law.tw4786633861253155792 : True := trivial
theorem the_law.tw6769165481588039847 : True := trivial
theorem the_law.tw1599986414079690169 : True := trivial
theorem the_law.tw17683483480831797278 : True := trivial
theorem the_law.tw18335680582733689760 : True := trivial
theorem the_law.tw12208363429287235313 : True := trivial
theorem the_law.tw405975510254933866 : True := trivial
theorem the_law.tw9944827571909309040 : True := trivial
theorem the_law.tw5740844935027086226 : True := trivial
theorem the_law.tw4515701704840063676 : True := trivial
theorem the_law.tw2049875369161821533 : True := trivial
theorem the_law.tw12526301297345704436 : True := trivial
theorem the_law.tw1120911122990470450 : True := trivial
theorem the_law.tw14377233551968401461 : True := trivial
theorem the_law.tw5087292833185448787 : True := trivial
theorem the_law.tw17278806796006597325 : True := trivial
theorem the_law.tw14486799962669681046 : True := trivial
theorem the_law.tw1461178069882703792 : True := trivial
theorem the_law.tw7644073673115358861 : True := trivial
theorem the_law.tw1497362503833165854 : True := trivial
theorem the_law.tw12345758782256751200 : True := trivial
theorem the_law.tw1311586143849497828 : True := trivial
theorem the_law.tw11694075615805445117 : True := trivial
theorem the_law.tw471091107790654353 : True := trivial
theorem the_law.tw12348948289128397615 : True := trivial
theorem the_law.tw1887790122075234612 : True := trivial
theorem the_law.tw1779845115129480783 : True := trivial
theorem the_law.tw14327034850877405489 : True := trivial
theorem the_law.tw12220189558968296764 : True := trivial
theorem the_law.tw14890168075837069407 : True := trivial
theorem the_law.tw14676383744779256430 : True := trivial
theorem the_law.tw3967520466193859429 : True := trivial
theorem the_law.tw4678627924932929923 : True := trivial
theorem the_law.tw15991074862173821150 : True := trivial
theorem the_law.tw5685504433919115053 : True := trivial
theorem the_law.tw2928895128909551557 : True := trivial
theorem the_law.tw16068979030682537176 : True := trivial
theorem the_law.tw15383284626491181388 : True := trivial
theorem the_law.tw9875532184442794979 : True := trivial
theorem the_law.tw1297292671990470748 : True := trivial
theorem the_law.tw4321154964017037363 : True := trivial
theorem the_law.tw5351897218386179120 : True := trivial
theorem the_law.tw9569497067310047514 : True := trivial
theorem the_law.tw13461757905653922427 : True := trivial
theorem the_law.tw396127384779545441 : True := trivial
theorem the_law.tw2436466214247778694 : True := trivial
theorem the_law.tw17654801679413497003 : True := trivial
theorem the_law.tw3191944944298499119 : True := trivial
theorem the_law.tw4023158159974017452 : True := trivial
theorem the_law.tw12196214555868620447 : True := trivial
theorem the_law.tw12602636499158863242 : True := trivial
theorem the_law.tw1457612706020279832 : True := trivial
theorem the_law.tw9370712193754845523 : True := trivial
theorem the_law.tw3469847165625840272 : True := trivial
theorem the_law.tw9720762292192177328 : True := trivial
theorem the_law.tw13519719424011245531 : True := trivial
theorem the_law.tw6447661419362567202 : True := trivial
theorem the_law.tw13544579729492022460 : True := trivial
theorem the_law.tw3219084083584313298 : True := trivial
theorem the_law.tw9186166106411686349 : True := trivial
theorem the_law.tw1889377882272159707 : True := trivial
theorem the_law.tw554410411124047578 : True := trivial
theorem the_law.tw11575196113077229259 : True := trivial
theorem the_law.tw5488480631281259563 : True := trivial
theorem the_law.tw12215160692470941283 : True := trivial
theorem the_law.tw11607302524856502402 : True := trivial
theorem the_law.tw6273951907673342878 : True := trivial
theorem the_law.tw5493733263906499603 : True := trivial
theorem the_law.tw2815459543387162039 : True := trivial
theorem the_law.tw5232303326983784780 : True := trivial
theorem the_law.tw18230586189965180060 : True := trivial
theorem the_law.tw5679733185164916305 : True := trivial
theorem the_law.tw2737049499516002932 : True := trivial
theorem the_law.tw2485199081539761597 : True := trivial
theorem the_law.tw13491922407734903000 : True := trivial
theorem the_law.tw14755601824311176682 : True := trivial
theorem the_law.tw5885672744845692355 : True := trivial
theorem the_law.tw2583801996358820569 : True := trivial
theorem the_law.tw17423143462273180991 : True := trivial
theorem the_law.tw3200539236830423501 : True := trivial
theorem the_law.tw4816365603340139424 : True := trivial
theorem the_law.tw17879659354356538433 : True := trivial
theorem the_law.tw17114451759434113669 : True := trivial
theorem the_law.tw5193641541962881278 : True := trivial
theorem the_law.tw14164325320658674290 : True := trivial
theorem the_law.tw7200440461323754383 : True := trivial
theorem the_law.tw5786197828388215336 : True := trivial
theorem the_law.tw6267297251769526614 : True := trivial
theorem the_law.tw17703780964691147882 : True := trivial
theorem the_law.tw1057164418953052063 : True := trivial
theorem the_law.tw7090720146225453978 : True := trivial
theorem the_law.tw9544869008121019786 : True := trivial
theorem the_law.tw8473419563947124841 : True := trivial
theorem the_law.tw3837173478435337088 : True := trivial
theorem the_law.tw11019182667747504610 : True := trivial
theorem the_law.tw12954198489959858343 : True := trivial
theorem the_law.tw1617432938517750258 : True := trivial
theorem the_law.tw2932366986021997585 : True := trivial
theorem the_law.tw9156717277385824625 : True := trivial
theorem the_law.tw18209024029236962908 : True := trivial
theorem the_law.tw16461617603256166657 : True := trivial
theorem the_law.tw3836035043137533401 : True := trivial
theorem the_law.tw2941543471161629678 : True := trivial
theorem the_law.tw7210766434124698927 : True := trivial
theorem the_law.tw10351593831880175474 : True := trivial
theorem the_law.tw5173336352277494983 : True := trivial
theorem the_law.tw13810452519259035171 : True := trivial
theorem the_law.tw8571938096857657518 : True := trivial
theorem the_law.tw9135445434630633655 : True := trivial
theorem the_law.tw15611122639596135713 : True := trivial
theorem the_law.tw14592839810846470784 : True := trivial
set_option Elab.async true
set_option maxHeartbeats 8000000 in
theorem the_law : PySem.Challenge.rw_uc0052_01.Holds := by
  w_on
  o_law
  o_head (kmHook Mine.frag.heap_1 [2, 3, 15, 17, 18, 20, 21, 22, 24, 25, 27, 28, 29, 31, 32, 34, 35, 36, 38, 39, 41, 42, 43, 45, 46, 48, 49, 50, 52, 53, 55, 56, 57, 59, 60, 62, 63, 64, 66, 67, 69, 70, 71, 73, 74, 76, 77, 78, 80, 81, 83, 84, 95, 97, 98, 100, 101, 102, 104, 105, 107, 108, 109, 111, 112, 114, 115, 116, 118, 119, 121, 122, 123, 125, 126, 128, 129, 130, 132, 133, 135, 136, 137, 139, 140, 142, 143, 144, 145, 146, 147, 148, 151, 154, 156, 157, 159, 160, 161, 163, 164, 166, 167, 168, 171, 172, 173, 176, 177, 178, 180, 181, 183, 184, 185, 187, 188, 190, 191, 192, 195, 196, 197, 199, 200, 202, 203, 204, 206, 207, 209, 210, 211, 213, 214, 216, 217, 218, 221, 222, 223, 225, 226, 228, 229, 230, 233, 234] (fun _ => by kernel_rfl) [44, 37])
  (case hw => w_witness2)
  intro w s₀ s₁ mg mb G Y fa o pm cd doc dV kV ho hd hcd hD hmg hg args vals as hpre hlay hrd hwl hlo
  refine Ground.open G ?_
  intro T B D TE TW
  clear ho hd hcd hD D TE TW B
  have KX : (KK w.params).In s₁.heap := km_in_of Y
  have KT := km_tabs_of Y
  have hfa : mg "law" = some (.ref fa) := hmg
  clear hmg
  have hfa2 := ns_some_of KX T.g (law_fn w.params)
  rw [hfa] at hfa2
  cases hfa2
  have hseer := T.seer (by kernel_rfl)
  have hnl := T.nolimit
  have hmain := T.bmain
  have hTg := T.g
  clear T G Y
  wrow_args hpre hlay hrd hwl hlo
  rename_i xs _ _ _ _ _ _ _ la vs _ hL _ _ _ hI _ hlen _
  obtain ⟨ol, hol, hcls, kl, hdl⟩ := id hL
  have hne : ∀ b o, s₁.heap.get? b = some o → o.cls ≠ .type "list" ∨ (∀ k, o.data ≠ .seq vs.toArray k) → b ≠ la := fun b o e hx q => by
    rw [q, hol] at e
    cases e
    rcases hx with hx | hx
    · exact hx hcls
    · exact hx kl hdl
  have keep : ∀ b o, s₁.heap.get? b = some o → o.cls ≠ .type "list" ∨ (∀ k, o.data ≠ .seq vs.toArray k) → (wiped s₁.heap la).get? b = some o := fun b o e hx => (wiped_ne (hne b o e hx)).trans e
  have nsK : ∀ {a : Nat} {m : Str → Option Value}, s₁.heap.Ns a m → (wiped s₁.heap la).Ns a m := fun ⟨o, es, ep, e, hd, r⟩ => ⟨o, es, ep, keep _ o e (.inr fun k q => by rw [hd] at q; cases q), hd, r⟩
  let W : Wd := {
    w := w
    H := wiped s₁.heap la
    K := fun a o e => keep a o (KX a o e) (.inl fun q => by
      have := List.all_eq_true.mp (kk_nolist w.params) _ (lookup_mem e)
      simp only [q] at this
      cases this)
    t1 := keep _ _ (KT 37 (by simp)) (.inl fun q => nomatch q)
    t2 := keep _ _ (KT 44 (by simp)) (.inl fun q => nomatch q)
    nolimit := let ⟨mc, a, b⟩ := hnl; ⟨mc, nsK a, b⟩
    seer := {
      statics := let ⟨mc, a, b⟩ := hseer.statics; ⟨mc, nsK a, b⟩
      mods := let ⟨mc, a, b⟩ := hseer.mods; ⟨mc, nsK a, b⟩
      imp := let ⟨mc, a, b⟩ := hseer.imp; ⟨mc, nsK a, b⟩
      main := let ⟨mg, bm, ob, a, b, c, d, e⟩ := hseer.main; ⟨mg, bm, ob, nsK a, b, keep _ _ c (.inl fun q => by rw [d] at q; injection q with q; exact absurd q (by decide)), d, e⟩ }
    main := let ⟨bm, ob, a, b, c, d, e, f⟩ := hmain; ⟨mg, bm, ob, nsK hTg, a, b, keep _ _ c (.inl fun q => by rw [d] at q; injection q with q; exact absurd q (by decide)), d, e, f⟩ }
  have hinv : Inv W s₁ := {
    base := fun b o e _ => by
      have : b ≠ la := fun q => by
        rw [q] at e
        have e : (wiped s₁.heap la).get? la = some o := e
        rw [wiped_self] at e; cases e
      have e : (wiped s₁.heap la).get? b = some o := e
      rw [wiped_ne this] at e; exact e
    t1 := .inl (KT 37 (by simp))
    t2 := .inl (KT 44 (by simp))
    bare := .of_eq hg }
  have hgz : Gz W (One la) s₁ := fun a h => by
    rw [show a = la from h]
    exact ⟨wiped_self _ _, ol, hol⟩
  have hbud : Bud callerA (0 + 130) := ⟨rfl, by decide, by decide, [], rfl⟩
  have run := (f_law (w := W) (n := 0) (ns := xs) (by omega)).run callerA (One la) s₁ [.ref la] hbud hinv hgz (.cons (.list rfl hL (RepL.ofInts hI)) .nil)
  refine wpAny_mono run (fun v s' p => ?_) fun _ _ x => x.elim
  obtain ⟨G', d, rfl, r, x⟩ := p
  cases r
  refine ⟨.inl ⟨_, .bool true, [], rfl, fun _ => rfl, .bool _, ?_, fun _ => ⟨.nil, fun a h => nomatch h⟩⟩, ?_, x.os, x.inv.bare⟩
  · exact postW_of (r := PySem.Challenge.rw_uc0052_01.row.toRowW) (X := true) rfl (w_eq_bool (k := true) (l := true) rfl rfl) rfl
  · refine ⟨fun b o e => ?_, fun b o e => x.there b o e⟩
    by_cases nt : isTab b
    · have tb := x.tab b nt
      have cT : ∀ {c P : Nat}, codeHdIn (KK w.params) c P = true → P ∈ [44, 37] → isCodeTable s₁.heap P := fun q m => ((codeHd_of_K KX q).tab (KT _ m)).isCodeTable
      rcases tb with tb | ⟨tb, ps, tb'⟩
      · exact .inl (tb.trans e)
      · rw [tb] at e
        cases e
        have ct : isCodeTable s₁.heap b := by
          rcases nt with rfl | rfl
          · exact cT (c := 41) (P := 37) (by kernel_rfl) (by simp)
          · exact cT (c := 48) (P := 44) (by kernel_rfl) (by simp)
        exact .inr (.inl ⟨ct, rfl, #[], ps, rfl, by rw [Array.empty_append]; exact tb'⟩)
    · exact .inl (x.keep b o e (fun h => h) nt)
end Mine
end

theorem PySem.Challenge.cw_uc0052_01_holds : PySem.Challenge.rw_uc0052_01.Holds := by
  exact Mine.the_law
