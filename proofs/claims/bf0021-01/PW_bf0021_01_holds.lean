import PyProof.Rows.All
import Wide.All
import OpenK.AllK
import Wide.FinOn
import PySem.Challenge.RW_bf0021_01
set_option Elab.async false
set_option linter.unusedVariables false
set_option linter.unusedSimpArgs false
set_option genSizeOfSpec false
set_option genInjectivity false
section
open PySem PySem.W PyProof.Rows
namespace Mine
set_option maxRecDepth 100000 in
set_option maxHeartbeats 8000000 in
open_top hd for PySem.Challenge.rw_bf0021_01
end Mine
end
namespace Mine
section
open PySem PySem.W PyProof.Rows
local macro_rules | `(tactic| walk_at $s:str) => `(tactic| k_extra $s)
local macro_rules | `(tactic| k_inst) => `(tactic| k_extra "k_inst")
local macro_rules | `(tactic| k_all) => `(tactic| k_extra "k_all")
local macro_rules | `(tactic| k_handed) => `(tactic| k_extra "k_handed")
local macro_rules | `(tactic| k_room) => `(tactic| k_extra "k_room")
local macro_rules | `(tactic| k_units) => `(tactic| k_extra "k_units")
local macro_rules | `(tactic| k_ne) => `(tactic| k_extra "k_ne")
section
open PySem PySem.W PyProof.Rows PySem.Calls
section
open PySem PySem.W PyProof.Rows PySem.Calls
section

noncomputable abbrev LS : List Str := looseW Mine.hd.view_39 [Str.ofString "_Item", Str.ofString "_Node", Str.ofString "PairingHeap"]

noncomputable abbrev Ar (dp un : Nat) (gd : Option (List Code)) (outer : List Env) : Around :=
  { handled := none, depth := dp, frames := some outer, guards := gd, units := un }

noncomputable abbrev nodeObj (dx : Addr) (k v prev parent next left : Value) : Obj :=
  { cls := .ref 83, dict := some dx, data := .plain, slots := [some left, some next, some parent, some prev, some k, some v].toArray }

theorem instN {g h : Heap} {L x C dx : Addr} {m : Str → Option Value} {news : List (Addr × Obj)} {od : Obj} {sl : Array (Option Value)} (F : Fr g L h m) (N : News g L h news)
    (h1 : (x, (⟨.ref C, some dx, .plain, sl⟩ : Obj)) ∈ news) (hd : g.get? dx = some od) : InstAt h x ⟨.ref C, some dx, .plain, sl⟩ C (some od) := ⟨(N _ h1).1, rfl, rfl, F.keep _ _ hd⟩

theorem room_le {d a b n : Nat} (h : d + a < n) (k : b ≤ a) : d + b < n := Nat.lt_of_le_of_lt (Nat.add_le_add_left k d) h

structure On (g h : Heap) (news : List (Addr × Obj)) : Prop where
  sz : g.objs.size ≤ h.objs.size
  st : g.StaysIn h
  nw : ∀ p ∈ news, h.get? p.1 = some p.2 ∧ g.get? p.1 = none

theorem enter {prog : Program} {w : World} {K : Frag} {A : Around} {s : Shared} {g : Heap} {news : List (Addr × Obj)}
    {R : Result → Shared → Prop} {name qual : Str} {params : Arguments} {body : List Stmt} {scope : Scope} {dV kV doc pm cdv ct oc : Value} {an od : Option Addr} {osl : Array (Option Value)} {f : Addr} {args : Args} {binds : List (Str × Value)}
    (O : On g s.heap news) (X : K.In g) (hlim : g.NoLimit)
    (ho : K.lookup f = some ⟨oc, od, .func (fnOf name qual params body scope dV kV doc pm an cdv ct), osl⟩) (hcd : codeIn K cdv qual = true) (hroom : A.depth < recursionLimit)
    (hbind : BindsTo s (fnOf name qual params body scope dV kV doc pm an cdv ct) args binds) (hloc : ∀ y ∈ binds, scope.names.lookup y.1 = some .local)
    (h : ∀ L' h₁, Fr g L' h₁ (fun y => binds.reverse.lookup y) → News g L' h₁ news →
      wpAny (model prog w) (A.deeper (envOf qual scope L' f cdv)) (execs body (envOf qual scope L' f cdv))
        (fun fl s' => R (.ok (.ret (match fl with | .ret v => v | _ => .none))) s')
        (fun e s' => wpAny (model prog w) (A.deeper (envOf qual scope L' f cdv)) (leaving (envOf qual scope L' f cdv) e) (fun _ s'' => R (.error e) s'') (fun e' s'' => R (.error e') s'') s')
        { s with heap := h₁, toks := s.toks + binds.length })
    (hco : scope.isCoroutine = false) (hgen : scope.isGenerator = false) (hk : scope.kind = .function)
    (hcell : ∀ x ∈ scope.names, x.2 ≠ .cell) : codeAny (model prog w) A (.call (.ref f) args) R s := by
  have X' : K.In s.heap := X.keeps O.st
  refine codeAny_call_def (fd := fnOf name qual params body scope dV kV doc pm an cdv ct) (body := body) (binds := binds) hroom (X' _ _ ho) rfl (hlim.keeps O.st) (codeRec_of X' hcd) rfl hbind hcell hloc (fun h₁ hns hk₁ => ?_) hco hgen hk
  exact h s.heap.objs.size h₁ ⟨hns, fun b o e => hk₁ b o (O.st b o e), O.sz⟩ (fun p hp => ⟨hk₁ _ _ (O.nw p hp).1, Nat.ne_of_lt (Heap.lt_size (O.nw p hp).1), (O.nw p hp).2⟩)

end
end
section
open PySem PySem.W PyProof.Rows PySem.Calls
section

inductive B where
  | nil : B
  | node (a : Nat) (k v : Int) (l r : B) : B

structure Tp where
  a : Nat
  k : Int
  v : Int
  l : B

namespace B
noncomputable def ptr : B → Value
  | nil => .none
  | node a _ _ _ _ => .ref a
noncomputable def addrs : B → List Nat
  | nil => []
  | node a _ _ l r => a :: (l.addrs ++ r.addrs)
noncomputable def items : B → List (Nat × Int × Int)
  | nil => []
  | node a k v l r => (a, k, v) :: (l.items ++ r.items)
def ge (lo : Int) : B → Prop
  | nil => True
  | node _ _ v l r => lo ≤ v ∧ l.ge v ∧ r.ge lo
theorem addrs_items : ∀ b : B, b.addrs = b.items.map (·.1)
  | nil => rfl
  | node a k v l r => by simp [addrs, items, addrs_items l, addrs_items r]
theorem ge_mono {lo lo' : Int} (h : lo' ≤ lo) : ∀ {b : B}, b.ge lo → b.ge lo'
  | nil, _ => trivial
  | node _ _ _ _ _, g => ⟨Int.le_trans h g.1, g.2.1, ge_mono h g.2.2⟩
theorem ge_all {lo : Int} : ∀ {b : B}, b.ge lo → ∀ p ∈ b.items, lo ≤ p.2.2
  | nil, _, _, hp => by simp [items] at hp
  | node a k v l r, g, p, hp => by
    obtain ⟨h1, h2, h3⟩ := g
    simp only [items, List.mem_cons, List.mem_append] at hp
    rcases hp with rfl | hp | hp
    · exact h1
    · exact Int.le_trans h1 (ge_all h2 p hp)
    · exact ge_all h3 p hp
end B

namespace Tp
noncomputable def addrs (t : Tp) : List Nat := t.a :: t.l.addrs
noncomputable def items (t : Tp) : List (Nat × Int × Int) := (t.a, t.k, t.v) :: t.l.items
def ord (t : Tp) : Prop := t.l.ge t.v
theorem addrs_items (t : Tp) : t.addrs = t.items.map (·.1) := by simp [addrs, items, B.addrs_items]
theorem ord_all {t : Tp} (h : t.ord) : ∀ p ∈ t.items, t.v ≤ p.2.2 := by
  intro p hp
  simp only [items, List.mem_cons] at hp
  rcases hp with rfl | hp
  · exact Int.le_refl _
  · exact B.ge_all h p hp
end Tp

noncomputable def linkT (t u : Tp) : Tp := if u.v < t.v then ⟨u.a, u.k, u.v, .node t.a t.k t.v t.l u.l⟩ else ⟨t.a, t.k, t.v, .node u.a u.k u.v u.l t.l⟩

theorem linkT_items (t u : Tp) : (linkT t u).items.Perm (t.items ++ u.items) := by
  unfold linkT
  split
  · simp only [Tp.items, B.items, List.cons_append]
    refine (List.Perm.swap _ _ _).trans (List.Perm.cons _ ?_)
    exact (List.perm_middle).symm
  · simp only [Tp.items, B.items, List.cons_append]
    refine List.Perm.cons _ ?_
    refine (List.Perm.cons _ List.perm_append_comm).trans ?_
    exact (List.perm_middle).symm
theorem linkT_ord {t u : Tp} (ht : t.ord) (hu : u.ord) : (linkT t u).ord := by
  unfold linkT
  split
  · rename_i h
    exact ⟨Int.le_of_lt h, ht, hu⟩
  · rename_i h
    exact ⟨Int.not_lt.mp h, hu, ht⟩
theorem linkT_addrs (t u : Tp) : (linkT t u).addrs.Perm (t.addrs ++ u.addrs) := by
  have := (linkT_items t u).map (·.1)
  rw [List.map_append, ← Tp.addrs_items, ← Tp.addrs_items, ← Tp.addrs_items] at this
  exact this

inductive Zp where
  | root (p : Nat) (k v : Int)
  | left (b : Nat) (k v : Int) (r : B) (up : Zp)
  | next (b : Nat) (k v : Int) (l : B) (up : Zp)
namespace Zp
noncomputable def fill : Zp → B → Tp
  | root p k v, x => ⟨p, k, v, x⟩
  | left b k v r up, x => up.fill (.node b k v x r)
  | next b k v l up, x => up.fill (.node b k v l x)
noncomputable def par : Zp → Nat
  | root p _ _ => p
  | left b _ _ _ _ => b
  | next _ _ _ _ up => up.par
noncomputable def prev : Zp → Value
  | root _ _ _ => .none
  | left _ _ _ _ _ => .none
  | next b _ _ _ _ => .ref b
noncomputable def pval : Zp → Int
  | root _ _ v => v
  | left _ _ v _ _ => v
  | next _ _ _ _ up => up.pval
noncomputable def addrs : Zp → List Nat
  | root p _ _ => [p]
  | left b _ _ r up => b :: (r.addrs ++ up.addrs)
  | next b _ _ l up => b :: (l.addrs ++ up.addrs)
noncomputable def items : Zp → List (Nat × Int × Int)
  | root p k v => [(p, k, v)]
  | left b k v r up => (b, k, v) :: (r.items ++ up.items)
  | next b k v l up => (b, k, v) :: (l.items ++ up.items)
theorem addrs_items : ∀ z : Zp, z.addrs = z.items.map (·.1)
  | root _ _ _ => rfl
  | left b k v r up => by simp [addrs, items, addrs_items up, B.addrs_items]
  | next b k v l up => by simp [addrs, items, addrs_items up, B.addrs_items]
theorem fill_items : ∀ (z : Zp) (x : B), (z.fill x).items.Perm (x.items ++ z.items)
  | root p k v, x => by
    simp only [fill, Tp.items, items]
    exact (List.perm_append_comm (l₁ := [(p, k, v)]) (l₂ := x.items))
  | left b k v r up, x => by
    refine (fill_items up _).trans ?_
    simp only [B.items, items, List.cons_append, List.append_assoc]
    exact (List.perm_middle).symm
  | next b k v l up, x => by
    refine (fill_items up _).trans ?_
    simp only [B.items, items, List.cons_append, List.append_assoc]
    refine List.Perm.trans (List.Perm.cons _ ?_) (List.perm_middle).symm
    rw [← List.append_assoc, ← List.append_assoc]
    exact List.Perm.append_right _ List.perm_append_comm
theorem fill_addrs (z : Zp) (x : B) : (z.fill x).addrs.Perm (x.addrs ++ z.addrs) := by
  have := (fill_items z x).map (·.1)
  rw [List.map_append, ← Tp.addrs_items, ← B.addrs_items, ← addrs_items] at this
  exact this
def ordZ : Zp → Prop
  | root _ _ _ => True
  | left _ _ v r up => up.pval ≤ v ∧ r.ge up.pval ∧ up.ordZ
  | next _ _ v l up => up.pval ≤ v ∧ l.ge v ∧ up.ordZ
theorem fill_ord : ∀ (z : Zp) (x : B), (z.fill x).ord ↔ z.ordZ ∧ x.ge z.pval
  | root p k v, x => by simp [fill, Tp.ord, ordZ, pval]
  | left b k v r up, x => by
    rw [fill, fill_ord up]
    simp only [B.ge, ordZ, pval]
    constructor
    · rintro ⟨h1, h2, h3, h4⟩; exact ⟨⟨h2, h4, h1⟩, h3⟩
    · rintro ⟨⟨h2, h4, h1⟩, h3⟩; exact ⟨h1, h2, h3, h4⟩
  | next b k v l up, x => by
    rw [fill, fill_ord up]
    simp only [B.ge, ordZ, pval]
    constructor
    · rintro ⟨h1, h2, h3, h4⟩; exact ⟨⟨h2, h3, h1⟩, h4⟩
    · rintro ⟨⟨h2, h3, h1⟩, h4⟩; exact ⟨h1, h2, h3, h4⟩
theorem findB {a : Nat} : ∀ (x : B) (z : Zp), a ∈ x.addrs → ∃ (z' : Zp) (k v : Int) (l r : B), z.fill x = z'.fill (.node a k v l r)
  | .nil, _, h => by simp [B.addrs] at h
  | .node b k v l r, z, h => by
    simp only [B.addrs, List.mem_cons, List.mem_append] at h
    rcases h with rfl | h | h
    · exact ⟨z, k, v, l, r, rfl⟩
    · exact findB l (.left b k v r z) h
    · exact findB r (.next b k v l z) h
theorem find_top {a : Nat} {t : Tp} (h : a ∈ t.addrs) (hne : a ≠ t.a) : ∃ (z : Zp) (k v : Int) (l r : B), t = z.fill (.node a k v l r) := by
  obtain ⟨p, k, v, x⟩ := t
  simp only [Tp.addrs, List.mem_cons] at h
  exact findB x (.root p k v) (h.resolve_left hne)
end Zp
end
end
section
open PySem PySem.W PyProof.Rows PySem.Calls
section

theorem node_ne_empty {dx : Nat} {k v p q n l : Value} : (some (nodeObj dx k v p q n l) : Option Obj) ≠ some emptyDict := by
  intro h
  injection h with h
  injection h with h
  cases h

structure Step (z : Nat) (F : List Nat) (h h' : Heap) : Prop where
  keep : ∀ (b : Nat) o, h.get? b = some o → b ∉ F → h'.get? b = some o
  only : ∀ b ∈ F, z ≤ b → h.get? b ≠ some emptyDict

theorem Step.mono {z : Nat} {F G : List Nat} {h h' : Heap} (x : Step z F h h') (s : ∀ b ∈ F, b ∈ G) (o : ∀ b ∈ G, z ≤ b → h.get? b ≠ some emptyDict) : Step z G h h' :=
  ⟨fun b o e n => x.keep b o e fun q => n (s b q), o⟩

inductive Cell (z : Nat) (h : Heap) (a : Nat) (k v : Int) (left next parent prev : Value) : Prop
  | mk (dx : Nat) (kt vt : Tok) (za : z ≤ a) (zd : z ≤ dx) (hg : h.get? a = some (nodeObj dx (.int k kt) (.int v vt) prev parent next left)) (hd : h.get? dx = some emptyDict)

section
variable {z : Nat} {h h' : Heap} {F : List Nat}
theorem Cell.step {a : Nat} {k v : Int} {l n p q : Value} (c : Cell z h a k v l n p q) (x : Step z F h h') (ha : a ∉ F) : Cell z h' a k v l n p q := by
  obtain ⟨dx, kt, vt, h1, h2, h3, h4⟩ := c
  exact ⟨dx, kt, vt, h1, h2, x.keep _ _ h3 ha, x.keep _ _ h4 fun q => x.only _ q h2 h4⟩
theorem Cell.notDict {a : Nat} {k v : Int} {l n p q : Value} (c : Cell z h a k v l n p q) : h.get? a ≠ some emptyDict := by
  obtain ⟨dx, kt, vt, h1, h2, h3, h4⟩ := c
  rw [h3]; exact node_ne_empty
theorem Cell.le {a : Nat} {k v : Int} {l n p q : Value} (c : Cell z h a k v l n p q) : z ≤ a := by obtain ⟨_, _, _, h1, _⟩ := c; exact h1
theorem Cell.lt {a : Nat} {k v : Int} {l n p q : Value} (c : Cell z h a k v l n p q) : a < h.objs.size := by obtain ⟨_, _, _, _, _, h3, _⟩ := c; exact Heap.lt_size h3

def Rep (z : Nat) (h : Heap) : (par prev : Value) → B → Prop
  | _, _, .nil => True
  | par, prev, .node a k v l r => Cell z h a k v l.ptr r.ptr par prev ∧ Rep z h (.ref a) .none l ∧ Rep z h par (.ref a) r
theorem Rep.step (x : Step z F h h') : ∀ {b : B} {par prev : Value}, Rep z h par prev b → (∀ a ∈ b.addrs, a ∉ F) → Rep z h' par prev b
  | .nil, _, _, _, _ => trivial
  | .node a k v l r, _, _, c, n => by
    obtain ⟨c, rl, rr⟩ := c
    simp only [B.addrs, List.mem_cons, List.mem_append] at n
    exact ⟨c.step x (n a (.inl rfl)), rl.step x fun b hb => n b (.inr (.inl hb)), rr.step x fun b hb => n b (.inr (.inr hb))⟩
theorem Rep.cell : ∀ {b : B} {par prev : Value}, Rep z h par prev b → ∀ a ∈ b.addrs, ∃ k v l n p q, Cell z h a k v l n p q
  | .nil, _, _, _, _, hx => by simp [B.addrs] at hx
  | .node a k v l r, _, _, c, x, hx => by
    obtain ⟨c, rl, rr⟩ := c
    simp only [B.addrs, List.mem_cons, List.mem_append] at hx
    rcases hx with rfl | hx | hx
    · exact ⟨_, _, _, _, _, _, c⟩
    · exact rl.cell x hx
    · exact rr.cell x hx
theorem Rep.notDict {b : B} {par prev : Value} (r : Rep z h par prev b) : ∀ a ∈ b.addrs, z ≤ a → h.get? a ≠ some emptyDict :=
  fun a ha _ => by obtain ⟨_, _, _, _, _, _, c⟩ := r.cell a ha; exact c.notDict

def TopF (z : Nat) (h : Heap) (t : Tp) (next parent prev : Value) : Prop := Cell z h t.a t.k t.v t.l.ptr next parent prev ∧ Rep z h (.ref t.a) .none t.l
def TopC (z : Nat) (h : Heap) (t : Tp) : Prop := ∃ next parent prev, TopF z h t next parent prev
theorem TopF.step {t : Tp} {n p q : Value} (r : TopF z h t n p q) (x : Step z F h h') (hF : ∀ a ∈ t.addrs, a ∉ F) : TopF z h' t n p q :=
  ⟨r.1.step x (hF _ (.head _)), r.2.step x fun b hb => hF b (.tail _ hb)⟩
theorem TopC.step {t : Tp} (r : TopC z h t) (x : Step z F h h') (hF : ∀ a ∈ t.addrs, a ∉ F) : TopC z h' t :=
  let ⟨n, p, q, r⟩ := r; ⟨n, p, q, r.step x hF⟩
theorem TopF.cell {t : Tp} {n p q : Value} (r : TopF z h t n p q) : ∀ a ∈ t.addrs, ∃ k v l n p q, Cell z h a k v l n p q := by
  intro a ha
  rcases List.mem_cons.mp ha with rfl | ha
  · exact ⟨_, _, _, _, _, _, r.1⟩
  · exact r.2.cell a ha
theorem TopC.cell {t : Tp} (r : TopC z h t) : ∀ a ∈ t.addrs, ∃ k v l n p q, Cell z h a k v l n p q := by obtain ⟨_, _, _, r⟩ := r; exact r.cell
theorem TopC.notDict {t : Tp} (r : TopC z h t) : ∀ a ∈ t.addrs, z ≤ a → h.get? a ≠ some emptyDict :=
  fun a ha _ => by obtain ⟨_, _, _, _, _, _, c⟩ := r.cell a ha; exact c.notDict
theorem TopC.le {t : Tp} (r : TopC z h t) : ∀ a ∈ t.addrs, z ≤ a := fun a ha => by obtain ⟨_, _, _, _, _, _, c⟩ := r.cell a ha; exact c.le
def RepZ (z : Nat) (h : Heap) : Zp → Value → Prop
  | .root p k v, q => ∃ nx pa pr, Cell z h p k v q nx pa pr
  | .left b k v r up, q => Cell z h b k v q r.ptr (.ref up.par) up.prev ∧ Rep z h (.ref up.par) (.ref b) r ∧ RepZ z h up (.ref b)
  | .next b k v l up, q => Cell z h b k v l.ptr q (.ref up.par) up.prev ∧ Rep z h (.ref b) .none l ∧ RepZ z h up (.ref b)
theorem RepZ.step (x : Step z F h h') : ∀ {c : Zp} {q : Value}, RepZ z h c q → (∀ a ∈ c.addrs, a ∉ F) → RepZ z h' c q
  | .root p k v, q, c, n => by
    obtain ⟨nx, pa, pr, c⟩ := c
    exact ⟨nx, pa, pr, c.step x (n p (.head _))⟩
  | .left b k v r up, q, c, n => by
    obtain ⟨c, rr, ru⟩ := c
    simp only [Zp.addrs, List.mem_cons, List.mem_append] at n
    exact ⟨c.step x (n b (.inl rfl)), rr.step x fun b hb => n b (.inr (.inl hb)), ru.step x fun b hb => n b (.inr (.inr hb))⟩
  | .next b k v l up, q, c, n => by
    obtain ⟨c, rr, ru⟩ := c
    simp only [Zp.addrs, List.mem_cons, List.mem_append] at n
    exact ⟨c.step x (n b (.inl rfl)), rr.step x fun b hb => n b (.inr (.inl hb)), ru.step x fun b hb => n b (.inr (.inr hb))⟩
theorem RepZ.cell : ∀ {c : Zp} {q : Value}, RepZ z h c q → ∀ a ∈ c.addrs, ∃ k v l n p q, Cell z h a k v l n p q
  | .root p k v, q, c, a, ha => by
    obtain ⟨nx, pa, pr, c⟩ := c
    simp only [Zp.addrs, List.mem_singleton] at ha
    subst ha
    exact ⟨_, _, _, _, _, _, c⟩
  | .left b k v r up, q, c, a, ha => by
    obtain ⟨c, rr, ru⟩ := c
    simp only [Zp.addrs, List.mem_cons, List.mem_append] at ha
    rcases ha with rfl | ha | ha
    · exact ⟨_, _, _, _, _, _, c⟩
    · exact rr.cell a ha
    · exact ru.cell a ha
  | .next b k v l up, q, c, a, ha => by
    obtain ⟨c, rr, ru⟩ := c
    simp only [Zp.addrs, List.mem_cons, List.mem_append] at ha
    rcases ha with rfl | ha | ha
    · exact ⟨_, _, _, _, _, _, c⟩
    · exact rr.cell a ha
    · exact ru.cell a ha
theorem RepZ.notDict {c : Zp} {q : Value} (r : RepZ z h c q) : ∀ a ∈ c.addrs, z ≤ a → h.get? a ≠ some emptyDict :=
  fun a ha _ => by obtain ⟨_, _, _, _, _, _, c⟩ := r.cell a ha; exact c.notDict
theorem topC_fill : ∀ {c : Zp} {x : B}, TopC z h (c.fill x) ↔ RepZ z h c x.ptr ∧ Rep z h (.ref c.par) c.prev x
  | .root p k v, x => by
    constructor
    · rintro ⟨n, p, q, c, r⟩; exact ⟨⟨n, p, q, c⟩, r⟩
    · rintro ⟨⟨n, p, q, c⟩, r⟩; exact ⟨n, p, q, c, r⟩
  | .left b k v r up, x => by
    rw [Zp.fill, topC_fill (c := up)]
    simp only [Rep, RepZ, B.ptr, Zp.par, Zp.prev]
    constructor
    · rintro ⟨h1, h2, h3, h4⟩; exact ⟨⟨h2, h4, h1⟩, h3⟩
    · rintro ⟨⟨h2, h4, h1⟩, h3⟩; exact ⟨h1, h2, h3, h4⟩
  | .next b k v l up, x => by
    rw [Zp.fill, topC_fill (c := up)]
    simp only [Rep, RepZ, B.ptr, Zp.par, Zp.prev]
    constructor
    · rintro ⟨h1, h2, h3, h4⟩; exact ⟨⟨h2, h3, h1⟩, h4⟩
    · rintro ⟨⟨h2, h3, h1⟩, h4⟩; exact ⟨h1, h2, h3, h4⟩
end
end
end
section
open PySem PySem.W PyProof.Rows PySem.Calls
section
open PySem PySem.W PyProof.Rows PySem.Calls
section
example : True := by
  w_top off
  k_with_none
  k_with "eval Name" => (k_here; k_dflt (refine' nameX_L ?F ?v ?_ ?a ?b; (case F => k_asm); (case a => exact Eq.refl _); (case b => exact Eq.refl (some NameKind.local)); (case v => exact Eq.refl (some _)); k_whole))
  k_with "k_ne" => (refine neN ?_; (try dsimp only); first | assumption | (apply Ne.symm; assumption))
  k_with "k_inst" => ((refine' instN ?F ?N ?h1 ?hd; (case F => k_asm); (case N => k_asm); (case h1 => k_mem); (case hd => assumption)))
  k_with "k_room" => ((try simp only [depth_under_make, depth_under_kw, depth_in1, depth_deeper, depth_caller, depth_mark]); (try dsimp only); first | exact room_le (b := 1) (by assumption) (by decide) | exact room_le (b := 2) (by assumption) (by decide) | exact room_le (b := 3) (by assumption) (by decide) | exact room_le (b := 4) (by assumption) (by decide))
  trivial
set_option maxRecDepth 100000

theorem hid_stays {g0 h : Heap} {z : Nat} {l : List Nat} (S : g0.StaysIn h) (hz : g0.objs.size ≤ z) (hl : ∀ b ∈ l, z ≤ b) : g0.StaysIn (hideAll h l) :=
  fun b o e => hideAll_get l (S b o e) fun q => Nat.lt_irrefl _ (Nat.lt_of_lt_of_le (Heap.lt_size e) (Nat.le_trans hz (hl b q)))
theorem hid_on {h : Heap} {news : List (Addr × Obj)} (hn : ∀ p ∈ news, h.get? p.1 = some p.2) : On (hideAll h (news.map (·.1))) h news :=
  ⟨Nat.le_of_eq (hideAll_size _ _), fun _ _ e => of_hideAll _ e, fun p hp => ⟨hn p hp, hideAll_none _ (List.mem_map_of_mem hp)⟩⟩
theorem hid_step {h h' : Heap} {z : Nat} {l : List Nat} {L : Addr} {m : Str → Option Value} (F : Fr (hideAll h l) L h' m) (o : ∀ b ∈ l, z ≤ b → h.get? b ≠ some emptyDict) : Step z l h h' := by
  exact ⟨fun b ob e n => F.keep b ob (hideAll_get l e n), o⟩
theorem newsTail {g h : Heap} {L : Addr} {p : Addr × Obj} {l : List (Addr × Obj)} (N : News g L h (p :: l)) : News g L h l := fun q hq => N q (.tail _ hq)

set_option maxHeartbeats 8000000
example (P : Params) : (Mine.hd.heap_39 P = Mine.hd.heap_39 P) ∧ Challenge.rw_bf0021_01.row.prog = Challenge.rw_bf0021_01.row.prog := by
  k_fill
  exact ⟨rfl, rfl⟩

section
variable {w : World} {dp un : Nat} {gd : Option (List Code)} {outer : List Env} {mean : ExcName → Option Value} {mg mb : Str → Option Value} {g : Heap} {z : Nat} {R : Result → Shared → Prop} {s : Shared} {self : Value}

theorem link_ge_n {r o  rd od  : Nat} {rk rp rq rn rl ok op oq on ol xk xv xp xq xn xl : Value} {rv ov : Int} {rt ot : Tok}
    (X : (Mine.hd.heap_39 w.params).In g) (T : Top Mine.hd.view_39 LS mean mg mb g) (hdp : dp + 10 < recursionLimit)
    (O : On g s.heap [(r, nodeObj rd rk (.int rv rt) rp rq rn .none), (o, nodeObj od ok (.int ov ot) op oq on ol)])
    (d1 : g.get? rd = some emptyDict) (d2 : g.get? od = some emptyDict) 
    (h1 : @Ne Nat r o)  (hlt : ¬ ov < rv)
    (hR : ∀ L' h' m' tk, Fr g L' h' m' → News g L' h' [(r, nodeObj rd rk (.int rv rt) rp rq rn (.ref o)), (o, nodeObj od ok (.int ov ot) .none (.ref r) .none ol)] → R (.ok (.ret (.ref r))) { s with heap := h', toks := tk }) :
    codeAny (model Challenge.rw_bf0021_01.row.prog w) (Ar dp un gd outer) (.call (.ref 184) ⟨[self, .ref r, .ref o], []⟩) R s := by
  k_dflt (refine' enter O X T.nolimit ?k1 ?k2 ?k3 ?k4 ?k5 ?k6 ?c1 ?c2 ?c3 ?c4;
          (case k1 => k_is);
          (case k2 => k_is);
          (case k3 => simp only []; omega);
          (case k4 => exact BindsTo.of_eq rfl);
          (case k5 => exact locs rfl);
          (case c1 => exact rfl);
          (case c2 => exact rfl);
          (case c3 => exact rfl);
          (case c4 => decide))
  intro L' h' F' N'
  (try dsimp only)
  k_fold
  k_steps
  all_goals exact hR _ _ _ _ (by assumption) (by first | assumption | exact newsTail (by assumption))

theorem link_ge_x {r o x rd od xd : Nat} {rk rp rq rn rl ok op oq on ol xk xv xp xq xn xl : Value} {rv ov : Int} {rt ot : Tok}
    (X : (Mine.hd.heap_39 w.params).In g) (T : Top Mine.hd.view_39 LS mean mg mb g) (hdp : dp + 10 < recursionLimit)
    (O : On g s.heap [(r, nodeObj rd rk (.int rv rt) rp rq rn (.ref x)), (o, nodeObj od ok (.int ov ot) op oq on ol), (x, nodeObj xd xk xv xp xq xn xl)])
    (d1 : g.get? rd = some emptyDict) (d2 : g.get? od = some emptyDict) (d3 : g.get? xd = some emptyDict)
    (h1 : @Ne Nat r o) (h2 : @Ne Nat r x) (h3 : @Ne Nat o x) (hlt : ¬ ov < rv)
    (hR : ∀ L' h' m' tk, Fr g L' h' m' → News g L' h' [(r, nodeObj rd rk (.int rv rt) rp rq rn (.ref o)), (o, nodeObj od ok (.int ov ot) .none (.ref r) (.ref x) ol), (x, nodeObj xd xk xv (.ref o) xq xn xl)] → R (.ok (.ret (.ref r))) { s with heap := h', toks := tk }) :
    codeAny (model Challenge.rw_bf0021_01.row.prog w) (Ar dp un gd outer) (.call (.ref 184) ⟨[self, .ref r, .ref o], []⟩) R s := by
  k_dflt (refine' enter O X T.nolimit ?k1 ?k2 ?k3 ?k4 ?k5 ?k6 ?c1 ?c2 ?c3 ?c4;
          (case k1 => k_is);
          (case k2 => k_is);
          (case k3 => simp only []; omega);
          (case k4 => exact BindsTo.of_eq rfl);
          (case k5 => exact locs rfl);
          (case c1 => exact rfl);
          (case c2 => exact rfl);
          (case c3 => exact rfl);
          (case c4 => decide))
  intro L' h' F' N'
  (try dsimp only)
  k_fold
  k_steps
  all_goals exact hR _ _ _ _ (by assumption) (by first | assumption | exact newsTail (by assumption))

theorem link_lt_n {r o  rd od  : Nat} {rk rp rq rn rl ok op oq on ol xk xv xp xq xn xl : Value} {rv ov : Int} {rt ot : Tok}
    (X : (Mine.hd.heap_39 w.params).In g) (T : Top Mine.hd.view_39 LS mean mg mb g) (hdp : dp + 10 < recursionLimit)
    (O : On g s.heap [(r, nodeObj rd rk (.int rv rt) rp rq rn rl), (o, nodeObj od ok (.int ov ot) op oq on .none)])
    (d1 : g.get? rd = some emptyDict) (d2 : g.get? od = some emptyDict) 
    (h1 : @Ne Nat r o)  (hlt : ov < rv)
    (hR : ∀ L' h' m' tk, Fr g L' h' m' → News g L' h' [(r, nodeObj rd rk (.int rv rt) .none (.ref o) .none rl), (o, nodeObj od ok (.int ov ot) op oq on (.ref r))] → R (.ok (.ret (.ref o))) { s with heap := h', toks := tk }) :
    codeAny (model Challenge.rw_bf0021_01.row.prog w) (Ar dp un gd outer) (.call (.ref 184) ⟨[self, .ref r, .ref o], []⟩) R s := by
  k_dflt (refine' enter O X T.nolimit ?k1 ?k2 ?k3 ?k4 ?k5 ?k6 ?c1 ?c2 ?c3 ?c4;
          (case k1 => k_is);
          (case k2 => k_is);
          (case k3 => simp only []; omega);
          (case k4 => exact BindsTo.of_eq rfl);
          (case k5 => exact locs rfl);
          (case c1 => exact rfl);
          (case c2 => exact rfl);
          (case c3 => exact rfl);
          (case c4 => decide))
  intro L' h' F' N'
  (try dsimp only)
  k_fold
  k_steps
  all_goals exact hR _ _ _ _ (by assumption) (by first | assumption | exact newsTail (by assumption))

theorem link_lt_x {r o x rd od xd : Nat} {rk rp rq rn rl ok op oq on ol xk xv xp xq xn xl : Value} {rv ov : Int} {rt ot : Tok}
    (X : (Mine.hd.heap_39 w.params).In g) (T : Top Mine.hd.view_39 LS mean mg mb g) (hdp : dp + 10 < recursionLimit)
    (O : On g s.heap [(r, nodeObj rd rk (.int rv rt) rp rq rn rl), (o, nodeObj od ok (.int ov ot) op oq on (.ref x)), (x, nodeObj xd xk xv xp xq xn xl)])
    (d1 : g.get? rd = some emptyDict) (d2 : g.get? od = some emptyDict) (d3 : g.get? xd = some emptyDict)
    (h1 : @Ne Nat r o) (h2 : @Ne Nat r x) (h3 : @Ne Nat o x) (hlt : ov < rv)
    (hR : ∀ L' h' m' tk, Fr g L' h' m' → News g L' h' [(r, nodeObj rd rk (.int rv rt) .none (.ref o) (.ref x) rl), (o, nodeObj od ok (.int ov ot) op oq on (.ref r)), (x, nodeObj xd xk xv (.ref r) xq xn xl)] → R (.ok (.ret (.ref o))) { s with heap := h', toks := tk }) :
    codeAny (model Challenge.rw_bf0021_01.row.prog w) (Ar dp un gd outer) (.call (.ref 184) ⟨[self, .ref r, .ref o], []⟩) R s := by
  k_dflt (refine' enter O X T.nolimit ?k1 ?k2 ?k3 ?k4 ?k5 ?k6 ?c1 ?c2 ?c3 ?c4;
          (case k1 => k_is);
          (case k2 => k_is);
          (case k3 => simp only []; omega);
          (case k4 => exact BindsTo.of_eq rfl);
          (case k5 => exact locs rfl);
          (case c1 => exact rfl);
          (case c2 => exact rfl);
          (case c3 => exact rfl);
          (case c4 => decide))
  intro L' h' F' N'
  (try dsimp only)
  k_fold
  k_steps
  all_goals exact hR _ _ _ _ (by assumption) (by first | assumption | exact newsTail (by assumption))

end
end
end
section
open PySem PySem.W PyProof.Rows PySem.Calls
section
set_option maxRecDepth 100000

structure Gd (w : World) (mean : ExcName → Option Value) (mg mb : Str → Option Value) (g0 : Heap) (z : Nat) : Prop where
  X : (Mine.hd.heap_39 w.params).In g0
  T : Top Mine.hd.view_39 LS mean mg mb g0
  sz : g0.objs.size ≤ z

section
variable {w : World} {dp un : Nat} {gd : Option (List Code)} {outer : List Env} {mean : ExcName → Option Value} {mg mb : Str → Option Value} {g0 : Heap} {z : Nat} {R : Result → Shared → Prop} {s : Shared} {self : Value}

theorem Gd.hid (G : Gd w mean mg mb g0 z) {h : Heap} {l : List Nat} (S : g0.StaysIn h) (hl : ∀ b ∈ l, z ≤ b) :
    (Mine.hd.heap_39 w.params).In (hideAll h l) ∧ Top Mine.hd.view_39 LS mean mg mb (hideAll h l) :=
  have k := hid_stays S G.sz hl
  ⟨G.X.keeps k, G.T.keeps k⟩

theorem all2 {α : Type} {P : α → Prop} {a b : α} (h1 : P a) (h2 : P b) : ∀ p ∈ [a, b], P p := by simp [h1, h2]
theorem all3 {α : Type} {P : α → Prop} {a b c : α} (h1 : P a) (h2 : P b) (h3 : P c) : ∀ p ∈ [a, b, c], P p := by simp [h1, h2, h3]
theorem all4 {α : Type} {P : α → Prop} {a b c d : α} (h1 : P a) (h2 : P b) (h3 : P c) (h4 : P d) : ∀ p ∈ [a, b, c, d], P p := by simp [h1, h2, h3, h4]
theorem nDict {h : Heap} {a d : Nat} {dx : Nat} {k v p q n l : Value} (h1 : h.get? a = some (nodeObj dx k v p q n l)) (h2 : h.get? d = some emptyDict) : d ≠ a := fun e => by
  subst e; rw [h1] at h2; exact node_ne_empty h2
theorem news_get {g h : Heap} {L : Addr} {news : List (Addr × Obj)} (N : News g L h news) {a : Addr} {o : Obj} (hm : (a, o) ∈ news) : h.get? a = some o := (N _ hm).1

theorem link_spec {t u : Tp} (G : Gd w mean mg mb g0 z) (S₀ : g0.StaysIn s.heap) (hdp : dp + 10 < recursionLimit)
    (ht : TopC z s.heap t) (hu : TopC z s.heap u) (nd : (t.addrs ++ u.addrs).Nodup)
    (hR : ∀ h' tk, Step z (t.addrs ++ u.addrs) s.heap h' → TopC z h' (linkT t u) → R (.ok (.ret (.ref (linkT t u).a))) { s with heap := h', toks := tk }) :
    codeAny (model Challenge.rw_bf0021_01.row.prog w) (Ar dp un gd outer) (.call (.ref 184) ⟨[self, .ref t.a, .ref u.a], []⟩) R s := by
  have nt := ht.notDict
  have nu := hu.notDict
  have ndAll : ∀ b ∈ t.addrs ++ u.addrs, z ≤ b → s.heap.get? b ≠ some emptyDict := fun b hb => (List.mem_append.mp hb).elim (nt b) (nu b)
  have ndA := ndAll
  obtain ⟨tn, tp, tq, ⟨td, tkt, tvt, tz, tdz, tg, tgd⟩, tr⟩ := ht
  obtain ⟨un', up, uq, ⟨ud, ukt, uvt, uz, udz, ug, ugd⟩, ur⟩ := hu
  obtain ⟨ta, tk, tv, tl⟩ := t
  obtain ⟨ua, uk, uv, ul⟩ := u
  simp only [Tp.addrs, List.cons_append, List.nodup_cons, List.mem_append, List.mem_cons, not_or, List.nodup_append] at nd ndAll
  obtain ⟨⟨n1, n2, n3⟩, n4, ⟨n5, n6⟩, n7⟩ := nd
  dsimp only at *
  by_cases hlt : uv < tv
  · rw [show linkT ⟨ta, tk, tv, tl⟩ ⟨ua, uk, uv, ul⟩ = ⟨ua, uk, uv, .node ta tk tv tl ul⟩ from if_pos hlt] at hR
    cases ul with
    | nil =>
      obtain ⟨X, T⟩ := G.hid (l := [ta, ua]) S₀ (all2 tz uz)
      have O := hid_on (h := s.heap) (news := [(ta, nodeObj td (.int tk tkt) (.int tv tvt) tq tp tn tl.ptr), (ua, nodeObj ud (.int uk ukt) (.int uv uvt) uq up un' .none)]) (all2 tg ug)
      have e1 : (hideAll s.heap [ta, ua]).get? td = some emptyDict := hideAll_get _ tgd (by simp [nDict tg tgd, nDict ug tgd])
      have e2 : (hideAll s.heap [ta, ua]).get? ud = some emptyDict := hideAll_get _ ugd (by simp [nDict tg ugd, nDict ug ugd])
      refine link_lt_n (xk := .none) (xv := .none) (xp := .none) (xq := .none) (xn := .none) (xl := .none) (ol := .none) X T hdp O e1 e2 n2 hlt (fun L' h' m' tk' F N => ?_)
      have St := hid_step (z := z) F (all2 (ndAll _ (.inl rfl)) (ndAll _ (.inr (.inr (.inl rfl)))))
      refine hR h' tk' (St.mono (by simp [Tp.addrs]) ndA) ⟨un', up, uq, ?_, ?_⟩
      · exact ⟨ud, ukt, uvt, uz, udz, news_get N (.tail _ (.head _)), F.keep _ _ e2⟩
      · refine ⟨⟨td, tkt, tvt, tz, tdz, news_get N (.head _), F.keep _ _ e1⟩, tr.step St fun a ha => ?_, trivial⟩
        simp only [List.mem_cons, List.not_mem_nil, or_false, not_or]
        exact ⟨fun e => n1 (e ▸ ha), fun e => n7 _ ha _ (.inl rfl) e⟩
    | node xa xk xv xl xr =>
      simp only [Rep] at ur
      obtain ⟨⟨xd, xkt, xvt, xz, xdz, xg, xgd⟩, url, urr⟩ := ur
      simp only [B.addrs, List.mem_cons, List.mem_append, not_or, List.nodup_cons, List.nodup_append] at n3 n5 n6 n7 ndAll
      obtain ⟨X, T⟩ := G.hid (l := [ta, ua, xa]) S₀ (all3 tz uz xz)
      have O := hid_on (h := s.heap) (news := [(ta, nodeObj td (.int tk tkt) (.int tv tvt) tq tp tn tl.ptr), (ua, nodeObj ud (.int uk ukt) (.int uv uvt) uq up un' (.ref xa)), (xa, nodeObj xd (.int xk xkt) (.int xv xvt) .none (.ref ua) xr.ptr xl.ptr)]) (all3 tg ug xg)
      have e1 : (hideAll s.heap [ta, ua, xa]).get? td = some emptyDict := hideAll_get _ tgd (by simp [nDict tg tgd, nDict ug tgd, nDict xg tgd])
      have e2 : (hideAll s.heap [ta, ua, xa]).get? ud = some emptyDict := hideAll_get _ ugd (by simp [nDict tg ugd, nDict ug ugd, nDict xg ugd])
      have e3 : (hideAll s.heap [ta, ua, xa]).get? xd = some emptyDict := hideAll_get _ xgd (by simp [nDict tg xgd, nDict ug xgd, nDict xg xgd])
      refine link_lt_x (ol := .none) X T hdp O e1 e2 e3 n2 n3.1 n5.1 hlt (fun L' h' m' tk' F N => ?_)
      have St := hid_step (z := z) F (all3 (ndAll _ (.inl rfl)) (ndAll _ (.inr (.inr (.inl rfl)))) (ndAll _ (.inr (.inr (.inr (.inl rfl))))))
      refine hR h' tk' (St.mono (by simp [Tp.addrs, B.addrs]) ndA) ⟨un', up, uq, ?_, ?_⟩
      · exact ⟨ud, ukt, uvt, uz, udz, news_get N (.tail _ (.head _)), F.keep _ _ e2⟩
      · refine ⟨⟨td, tkt, tvt, tz, tdz, news_get N (.head _), F.keep _ _ e1⟩, tr.step St fun a ha => ?_, ⟨xd, xkt, xvt, xz, xdz, news_get N (.tail _ (.tail _ (.head _))), F.keep _ _ e3⟩, url.step St fun a ha => ?_, urr.step St fun a ha => ?_⟩
        · simp only [List.mem_cons, List.not_mem_nil, or_false, not_or]
          exact ⟨fun e => n1 (e ▸ ha), fun e => n7 _ ha _ (.inl rfl) e, fun e => n7 _ ha _ (.inr (.inl rfl)) e⟩
        · simp only [List.mem_cons, List.not_mem_nil, or_false, not_or]
          exact ⟨fun e => n3.2.1 (e ▸ ha), fun e => n5.2.1 (e ▸ ha), fun e => n6.1.1 (e ▸ ha)⟩
        · simp only [List.mem_cons, List.not_mem_nil, or_false, not_or]
          exact ⟨fun e => n3.2.2 (e ▸ ha), fun e => n5.2.2 (e ▸ ha), fun e => n6.1.2 (e ▸ ha)⟩
  · rw [show linkT ⟨ta, tk, tv, tl⟩ ⟨ua, uk, uv, ul⟩ = ⟨ta, tk, tv, .node ua uk uv ul tl⟩ from if_neg hlt] at hR
    cases tl with
    | nil =>
      obtain ⟨X, T⟩ := G.hid (l := [ta, ua]) S₀ (all2 tz uz)
      have O := hid_on (h := s.heap) (news := [(ta, nodeObj td (.int tk tkt) (.int tv tvt) tq tp tn .none), (ua, nodeObj ud (.int uk ukt) (.int uv uvt) uq up un' ul.ptr)]) (all2 tg ug)
      have e1 : (hideAll s.heap [ta, ua]).get? td = some emptyDict := hideAll_get _ tgd (by simp [nDict tg tgd, nDict ug tgd])
      have e2 : (hideAll s.heap [ta, ua]).get? ud = some emptyDict := hideAll_get _ ugd (by simp [nDict tg ugd, nDict ug ugd])
      refine link_ge_n (xk := .none) (xv := .none) (xp := .none) (xq := .none) (xn := .none) (xl := .none) (rl := .none) X T hdp O e1 e2 n2 hlt (fun L' h' m' tk' F N => ?_)
      have St := hid_step (z := z) F (all2 (ndAll _ (.inl rfl)) (ndAll _ (.inr (.inr (.inl rfl)))))
      refine hR h' tk' (St.mono (by simp [Tp.addrs]) ndA) ⟨tn, tp, tq, ?_, ?_⟩
      · exact ⟨td, tkt, tvt, tz, tdz, news_get N (.head _), F.keep _ _ e1⟩
      · refine ⟨⟨ud, ukt, uvt, uz, udz, news_get N (.tail _ (.head _)), F.keep _ _ e2⟩, ur.step St fun a ha => ?_, trivial⟩
        simp only [List.mem_cons, List.not_mem_nil, or_false, not_or]
        exact ⟨fun e => n3 (e ▸ ha), fun e => n5 (e ▸ ha)⟩
    | node xa xk xv xl xr =>
      simp only [Rep] at tr
      obtain ⟨⟨xd, xkt, xvt, xz, xdz, xg, xgd⟩, url, urr⟩ := tr
      simp only [B.addrs, List.mem_cons, List.mem_append, not_or, List.nodup_cons, List.nodup_append] at n1 n4 n7 ndAll
      obtain ⟨X, T⟩ := G.hid (l := [ta, ua, xa]) S₀ (all3 tz uz xz)
      have O := hid_on (h := s.heap) (news := [(ta, nodeObj td (.int tk tkt) (.int tv tvt) tq tp tn (.ref xa)), (ua, nodeObj ud (.int uk ukt) (.int uv uvt) uq up un' ul.ptr), (xa, nodeObj xd (.int xk xkt) (.int xv xvt) .none (.ref ta) xr.ptr xl.ptr)]) (all3 tg ug xg)
      have e1 : (hideAll s.heap [ta, ua, xa]).get? td = some emptyDict := hideAll_get _ tgd (by simp [nDict tg tgd, nDict ug tgd, nDict xg tgd])
      have e2 : (hideAll s.heap [ta, ua, xa]).get? ud = some emptyDict := hideAll_get _ ugd (by simp [nDict tg ugd, nDict ug ugd, nDict xg ugd])
      have e3 : (hideAll s.heap [ta, ua, xa]).get? xd = some emptyDict := hideAll_get _ xgd (by simp [nDict tg xgd, nDict ug xgd, nDict xg xgd])
      refine link_ge_x (rl := .none) X T hdp O e1 e2 e3 n2 n1.1 (fun e => n7 _ (.inl rfl) _ (.inl rfl) e.symm) hlt (fun L' h' m' tk' F N => ?_)
      have St := hid_step (z := z) F (all3 (ndAll _ (.inl rfl)) (ndAll _ (.inr (.inr (.inl rfl)))) (ndAll _ (.inr (.inl (.inl rfl)))))
      refine hR h' tk' (St.mono (by simp [Tp.addrs, B.addrs]) ndA) ⟨tn, tp, tq, ?_, ?_⟩
      · exact ⟨td, tkt, tvt, tz, tdz, news_get N (.head _), F.keep _ _ e1⟩
      · refine ⟨⟨ud, ukt, uvt, uz, udz, news_get N (.tail _ (.head _)), F.keep _ _ e2⟩, ur.step St fun a ha => ?_, ⟨xd, xkt, xvt, xz, xdz, news_get N (.tail _ (.tail _ (.head _))), F.keep _ _ e3⟩, url.step St fun a ha => ?_, urr.step St fun a ha => ?_⟩
        · simp only [List.mem_cons, List.not_mem_nil, or_false, not_or]
          exact ⟨fun e => n3 (e ▸ ha), fun e => n5 (e ▸ ha), fun e => n7 _ (.inl rfl) _ (.inr ha) e.symm⟩
        · simp only [List.mem_cons, List.not_mem_nil, or_false, not_or]
          exact ⟨fun e => n1.2.1 (e ▸ ha), fun e => n7 _ (.inr (.inl ha)) _ (.inl rfl) e, fun e => n4.1.1 (e ▸ ha)⟩
        · simp only [List.mem_cons, List.not_mem_nil, or_false, not_or]
          exact ⟨fun e => n1.2.2 (e ▸ ha), fun e => n7 _ (.inr (.inr ha)) _ (.inl rfl) e, fun e => n4.1.2 (e ▸ ha)⟩
end
end
end
section
open PySem PySem.W PyProof.Rows PySem.Calls
section
example : True := by
  w_top off
  k_with_none
  k_with "eval Name" => (k_here; k_dflt (refine' nameX_L ?F ?v ?_ ?a ?b; (case F => k_asm); (case a => exact Eq.refl _); (case b => exact Eq.refl (some NameKind.local)); (case v => exact Eq.refl (some _)); k_whole))
  k_with "k_ne" => (refine neN ?_; (try dsimp only); first | assumption | (apply Ne.symm; assumption))
  k_with "k_inst" => ((refine' instN ?F ?N ?h1 ?hd; (case F => k_asm); (case N => k_asm); (case h1 => k_mem); (case hd => assumption)))
  k_with "k_room" => ((try simp only [depth_under_make, depth_under_kw, depth_in1, depth_deeper, depth_caller, depth_mark]); (try dsimp only); first | exact room_le (b := 1) (by assumption) (by decide) | exact room_le (b := 2) (by assumption) (by decide) | exact room_le (b := 3) (by assumption) (by decide) | exact room_le (b := 4) (by assumption) (by decide))
  trivial
set_option maxRecDepth 100000
set_option maxHeartbeats 8000000

section
variable {w : World} {dp un : Nat} {gd : Option (List Code)} {outer : List Env} {mean : ExcName → Option Value} {mg mb : Str → Option Value} {g : Heap} {z : Nat} {R : Result → Shared → Prop} {s : Shared} {self : Value}

theorem cut_q_n {a b  ad bd  : Nat} {ak av  al bk bv bp bq bn bl  : Value}
    (X : (Mine.hd.heap_39 w.params).In g) (T : Top Mine.hd.view_39 LS mean mg mb g) (hdp : dp + 10 < recursionLimit)
    (O : On g s.heap [(a, nodeObj ad ak av .none (.ref b) .none al), (b, nodeObj bd bk bv bp bq bn bl)])
    (d1 : g.get? ad = some emptyDict) (d2 : g.get? bd = some emptyDict) 
    (h1 : @Ne Nat a b) 
    (hR : ∀ L' h' m' tk, Fr g L' h' m' → News g L' h' [(a, nodeObj ad ak av .none .none .none al), (b, nodeObj bd bk bv bp bq bn .none)] → R (.ok (.ret .none)) { s with heap := h', toks := tk }) :
    codeAny (model Challenge.rw_bf0021_01.row.prog w) (Ar dp un gd outer) (.call (.ref 198) ⟨[self, .ref a], []⟩) R s := by
  k_dflt (refine' enter O X T.nolimit ?k1 ?k2 ?k3 ?k4 ?k5 ?k6 ?c1 ?c2 ?c3 ?c4;
          (case k1 => k_is);
          (case k2 => k_is);
          (case k3 => simp only []; omega);
          (case k4 => exact BindsTo.of_eq rfl);
          (case k5 => exact locs rfl);
          (case c1 => exact rfl);
          (case c2 => exact rfl);
          (case c3 => exact rfl);
          (case c4 => decide))
  intro L' h' F' N'
  (try dsimp only)
  k_fold
  k_steps
  all_goals exact hR _ _ _ _ (by assumption) (by first | assumption | exact newsTail (by assumption))

theorem cut_q_x {a b x ad bd xd : Nat} {ak av  al bk bv bp bq bn bl xk xv xp xq xn xl : Value}
    (X : (Mine.hd.heap_39 w.params).In g) (T : Top Mine.hd.view_39 LS mean mg mb g) (hdp : dp + 10 < recursionLimit)
    (O : On g s.heap [(a, nodeObj ad ak av .none (.ref b) (.ref x) al), (b, nodeObj bd bk bv bp bq bn bl), (x, nodeObj xd xk xv xp xq xn xl)])
    (d1 : g.get? ad = some emptyDict) (d2 : g.get? bd = some emptyDict) (d3 : g.get? xd = some emptyDict)
    (h1 : @Ne Nat a b) (h2 : @Ne Nat a x) (h3 : @Ne Nat b x)
    (hR : ∀ L' h' m' tk, Fr g L' h' m' → News g L' h' [(a, nodeObj ad ak av .none .none .none al), (b, nodeObj bd bk bv bp bq bn (.ref x)), (x, nodeObj xd xk xv .none xq xn xl)] → R (.ok (.ret .none)) { s with heap := h', toks := tk }) :
    codeAny (model Challenge.rw_bf0021_01.row.prog w) (Ar dp un gd outer) (.call (.ref 198) ⟨[self, .ref a], []⟩) R s := by
  k_dflt (refine' enter O X T.nolimit ?k1 ?k2 ?k3 ?k4 ?k5 ?k6 ?c1 ?c2 ?c3 ?c4;
          (case k1 => k_is);
          (case k2 => k_is);
          (case k3 => simp only []; omega);
          (case k4 => exact BindsTo.of_eq rfl);
          (case k5 => exact locs rfl);
          (case c1 => exact rfl);
          (case c2 => exact rfl);
          (case c3 => exact rfl);
          (case c4 => decide))
  intro L' h' F' N'
  (try dsimp only)
  k_fold
  k_steps
  all_goals exact hR _ _ _ _ (by assumption) (by first | assumption | exact newsTail (by assumption))

theorem cut_p_n {a b  ad bd  : Nat} {ak av aq al bk bv bp bq bn bl  : Value}
    (X : (Mine.hd.heap_39 w.params).In g) (T : Top Mine.hd.view_39 LS mean mg mb g) (hdp : dp + 10 < recursionLimit)
    (O : On g s.heap [(a, nodeObj ad ak av (.ref b) aq .none al), (b, nodeObj bd bk bv bp bq bn bl)])
    (d1 : g.get? ad = some emptyDict) (d2 : g.get? bd = some emptyDict) 
    (h1 : @Ne Nat a b) 
    (hR : ∀ L' h' m' tk, Fr g L' h' m' → News g L' h' [(a, nodeObj ad ak av .none .none .none al), (b, nodeObj bd bk bv bp bq .none bl)] → R (.ok (.ret .none)) { s with heap := h', toks := tk }) :
    codeAny (model Challenge.rw_bf0021_01.row.prog w) (Ar dp un gd outer) (.call (.ref 198) ⟨[self, .ref a], []⟩) R s := by
  k_dflt (refine' enter O X T.nolimit ?k1 ?k2 ?k3 ?k4 ?k5 ?k6 ?c1 ?c2 ?c3 ?c4;
          (case k1 => k_is);
          (case k2 => k_is);
          (case k3 => simp only []; omega);
          (case k4 => exact BindsTo.of_eq rfl);
          (case k5 => exact locs rfl);
          (case c1 => exact rfl);
          (case c2 => exact rfl);
          (case c3 => exact rfl);
          (case c4 => decide))
  intro L' h' F' N'
  (try dsimp only)
  k_fold
  k_steps
  all_goals exact hR _ _ _ _ (by assumption) (by first | assumption | exact newsTail (by assumption))

theorem cut_p_x {a b x ad bd xd : Nat} {ak av aq al bk bv bp bq bn bl xk xv xp xq xn xl : Value}
    (X : (Mine.hd.heap_39 w.params).In g) (T : Top Mine.hd.view_39 LS mean mg mb g) (hdp : dp + 10 < recursionLimit)
    (O : On g s.heap [(a, nodeObj ad ak av (.ref b) aq (.ref x) al), (b, nodeObj bd bk bv bp bq bn bl), (x, nodeObj xd xk xv xp xq xn xl)])
    (d1 : g.get? ad = some emptyDict) (d2 : g.get? bd = some emptyDict) (d3 : g.get? xd = some emptyDict)
    (h1 : @Ne Nat a b) (h2 : @Ne Nat a x) (h3 : @Ne Nat b x)
    (hR : ∀ L' h' m' tk, Fr g L' h' m' → News g L' h' [(a, nodeObj ad ak av .none .none .none al), (b, nodeObj bd bk bv bp bq (.ref x) bl), (x, nodeObj xd xk xv (.ref b) xq xn xl)] → R (.ok (.ret .none)) { s with heap := h', toks := tk }) :
    codeAny (model Challenge.rw_bf0021_01.row.prog w) (Ar dp un gd outer) (.call (.ref 198) ⟨[self, .ref a], []⟩) R s := by
  k_dflt (refine' enter O X T.nolimit ?k1 ?k2 ?k3 ?k4 ?k5 ?k6 ?c1 ?c2 ?c3 ?c4;
          (case k1 => k_is);
          (case k2 => k_is);
          (case k3 => simp only []; omega);
          (case k4 => exact BindsTo.of_eq rfl);
          (case k5 => exact locs rfl);
          (case c1 => exact rfl);
          (case c2 => exact rfl);
          (case c3 => exact rfl);
          (case c4 => decide))
  intro L' h' F' N'
  (try dsimp only)
  k_fold
  k_steps
  all_goals exact hR _ _ _ _ (by assumption) (by first | assumption | exact newsTail (by assumption))

end
end
end
section
open PySem PySem.W PyProof.Rows PySem.Calls
section
set_option maxRecDepth 100000
section
variable {w : World} {dp un : Nat} {gd : Option (List Code)} {outer : List Env} {mean : ExcName → Option Value} {mg mb : Str → Option Value} {g0 : Heap} {z : Nat} {R : Result → Shared → Prop} {s : Shared} {self : Value}

theorem cut_spec {c : Zp} {a : Nat} {k v : Int} {l r : B} (G : Gd w mean mg mb g0 z) (S₀ : g0.StaysIn s.heap) (hdp : dp + 10 < recursionLimit)
    (hc : RepZ z s.heap c (.ref a)) (ha : Cell z s.heap a k v l.ptr r.ptr (.ref c.par) c.prev) (hr : Rep z s.heap (.ref c.par) (.ref a) r) (nd : (a :: (r.addrs ++ c.addrs)).Nodup)
    (hR : ∀ h' tk, Step z (a :: (r.addrs ++ c.addrs)) s.heap h' → RepZ z h' c r.ptr → Rep z h' (.ref c.par) c.prev r → Cell z h' a k v l.ptr .none .none .none → R (.ok (.ret .none)) { s with heap := h', toks := tk }) :
    codeAny (model Challenge.rw_bf0021_01.row.prog w) (Ar dp un gd outer) (.call (.ref 198) ⟨[self, .ref a], []⟩) R s := by
  have nc := hc.notDict
  have nr := hr.notDict
  have na := ha.notDict
  have ndA : ∀ b ∈ a :: (r.addrs ++ c.addrs), z ≤ b → s.heap.get? b ≠ some emptyDict := fun b hb => by
    rcases List.mem_cons.mp hb with rfl | hb
    · exact fun _ => na
    · exact (List.mem_append.mp hb).elim (nr b) (nc b)
  have ndB := ndA
  obtain ⟨ad, akt, avt, az, adz, ag, agd⟩ := ha
  simp only [List.nodup_cons, List.mem_append, not_or, List.nodup_append, List.mem_cons] at nd ndB
  obtain ⟨⟨n1, n2⟩, n3, n4, n5⟩ := nd
  cases c with
  | root b bk bv =>
    obtain ⟨nx, pa, pr, bd, bkt, bvt, bz, bdz, bg, bgd⟩ := hc
    simp only [Zp.par, Zp.prev] at *
    cases r with
    | nil =>
      obtain ⟨X, T⟩ := G.hid (l := [a, b]) S₀ (all2 az bz)
      have O := hid_on (h := s.heap) (news := [(a, nodeObj ad (.int k akt) (.int v avt) .none (.ref b) .none l.ptr), (b, nodeObj bd (.int bk bkt) (.int bv bvt) pr pa nx (.ref a))]) (all2 ag bg)
      have e1 : (hideAll s.heap [a, b]).get? ad = some emptyDict := hideAll_get _ agd (by simp [nDict ag agd, nDict bg agd])
      have e2 : (hideAll s.heap [a, b]).get? bd = some emptyDict := hideAll_get _ bgd (by simp [nDict ag bgd, nDict bg bgd])
      refine cut_q_n X T hdp O e1 e2 (fun e => n2 (by rw [e]; simp [Zp.addrs])) (fun L' h' m' tk' F N => ?_)
      have St := hid_step (z := z) F (all2 (ndA _ (by simp)) (ndA _ (by simp [Zp.addrs])))
      refine hR h' tk' (St.mono (by simp [Zp.addrs, B.addrs]) ndA) ?_ ?_ ⟨ad, akt, avt, az, adz, news_get N (.head _), F.keep _ _ e1⟩
      · exact ⟨nx, pa, pr, ⟨bd, bkt, bvt, bz, bdz, news_get N (.tail _ (.head _)), F.keep _ _ e2⟩⟩
      · trivial
    | node x xk xv xl xr =>
      simp only [Rep] at hr
      obtain ⟨⟨xd, xkt, xvt, xz, xdz, xg, xgd⟩, url, urr⟩ := hr
      simp only [B.addrs, List.mem_cons, List.mem_append, not_or, List.nodup_cons, List.nodup_append] at n1 n3 n5 ndB
      obtain ⟨X, T⟩ := G.hid (l := [a, b, x]) S₀ (all3 az bz xz)
      have O := hid_on (h := s.heap) (news := [(a, nodeObj ad (.int k akt) (.int v avt) .none (.ref b) (.ref x) l.ptr), (b, nodeObj bd (.int bk bkt) (.int bv bvt) pr pa nx (.ref a)), (x, nodeObj xd (.int xk xkt) (.int xv xvt) (.ref a) (.ref b) xr.ptr xl.ptr)]) (all3 ag bg xg)
      have e1 : (hideAll s.heap [a, b, x]).get? ad = some emptyDict := hideAll_get _ agd (by simp [nDict ag agd, nDict bg agd, nDict xg agd])
      have e2 : (hideAll s.heap [a, b, x]).get? bd = some emptyDict := hideAll_get _ bgd (by simp [nDict ag bgd, nDict bg bgd, nDict xg bgd])
      have e3 : (hideAll s.heap [a, b, x]).get? xd = some emptyDict := hideAll_get _ xgd (by simp [nDict ag xgd, nDict bg xgd, nDict xg xgd])
      refine cut_q_x X T hdp O e1 e2 e3 (fun e => n2 (by rw [e]; simp [Zp.addrs])) n1.1 (fun e => n5 _ (.inl rfl) b (by simp [Zp.addrs]) e.symm) (fun L' h' m' tk' F N => ?_)
      have St := hid_step (z := z) F (all3 (ndA _ (by simp)) (ndA _ (by simp [Zp.addrs])) (ndA _ (by simp [B.addrs])))
      refine hR h' tk' (St.mono (by simp [Zp.addrs, B.addrs]) ndA) ?_ ?_ ⟨ad, akt, avt, az, adz, news_get N (.head _), F.keep _ _ e1⟩
      · exact ⟨nx, pa, pr, ⟨bd, bkt, bvt, bz, bdz, news_get N (.tail _ (.head _)), F.keep _ _ e2⟩⟩
      · refine ⟨⟨xd, xkt, xvt, xz, xdz, news_get N (.tail _ (.tail _ (.head _))), F.keep _ _ e3⟩, url.step St fun q hq => ?_, urr.step St fun q hq => ?_⟩
        · simp only [List.mem_cons, List.not_mem_nil, or_false, not_or]
          exact ⟨fun e => n1.2.1 (e ▸ hq), fun e => n5 _ (.inr (.inl hq)) b (by simp [Zp.addrs]) e, fun e => n3.1.1 (e ▸ hq)⟩
        · simp only [List.mem_cons, List.not_mem_nil, or_false, not_or]
          exact ⟨fun e => n1.2.2 (e ▸ hq), fun e => n5 _ (.inr (.inr hq)) b (by simp [Zp.addrs]) e, fun e => n3.1.2 (e ▸ hq)⟩
  | left b bk bv br up =>
    obtain ⟨⟨bd, bkt, bvt, bz, bdz, bg, bgd⟩, rb, ru⟩ := hc
    simp only [Zp.par, Zp.prev] at *
    cases r with
    | nil =>
      obtain ⟨X, T⟩ := G.hid (l := [a, b]) S₀ (all2 az bz)
      have O := hid_on (h := s.heap) (news := [(a, nodeObj ad (.int k akt) (.int v avt) .none (.ref b) .none l.ptr), (b, nodeObj bd (.int bk bkt) (.int bv bvt) up.prev (.ref up.par) br.ptr (.ref a))]) (all2 ag bg)
      have e1 : (hideAll s.heap [a, b]).get? ad = some emptyDict := hideAll_get _ agd (by simp [nDict ag agd, nDict bg agd])
      have e2 : (hideAll s.heap [a, b]).get? bd = some emptyDict := hideAll_get _ bgd (by simp [nDict ag bgd, nDict bg bgd])
      refine cut_q_n X T hdp O e1 e2 (fun e => n2 (by rw [e]; simp [Zp.addrs])) (fun L' h' m' tk' F N => ?_)
      have St := hid_step (z := z) F (all2 (ndA _ (by simp)) (ndA _ (by simp [Zp.addrs])))
      refine hR h' tk' (St.mono (by simp [Zp.addrs, B.addrs]) ndA) ?_ ?_ ⟨ad, akt, avt, az, adz, news_get N (.head _), F.keep _ _ e1⟩
      · simp only [Zp.addrs, List.mem_cons, List.mem_append, not_or, List.nodup_cons, List.nodup_append] at n2 n4 n5
        refine ⟨⟨bd, bkt, bvt, bz, bdz, news_get N (.tail _ (.head _)), F.keep _ _ e2⟩, rb.step St fun q hq => ?_, ru.step St fun q hq => ?_⟩
        · simp only [List.mem_cons, List.not_mem_nil, or_false, not_or]
          exact ⟨fun e => n2.2.1 (e ▸ hq), fun e => n4.1.1 (e ▸ hq)⟩
        · simp only [List.mem_cons, List.not_mem_nil, or_false, not_or]
          exact ⟨fun e => n2.2.2 (e ▸ hq), fun e => n4.1.2 (e ▸ hq)⟩
      · trivial
    | node x xk xv xl xr =>
      simp only [Rep] at hr
      obtain ⟨⟨xd, xkt, xvt, xz, xdz, xg, xgd⟩, url, urr⟩ := hr
      simp only [B.addrs, List.mem_cons, List.mem_append, not_or, List.nodup_cons, List.nodup_append] at n1 n3 n5 ndB
      obtain ⟨X, T⟩ := G.hid (l := [a, b, x]) S₀ (all3 az bz xz)
      have O := hid_on (h := s.heap) (news := [(a, nodeObj ad (.int k akt) (.int v avt) .none (.ref b) (.ref x) l.ptr), (b, nodeObj bd (.int bk bkt) (.int bv bvt) up.prev (.ref up.par) br.ptr (.ref a)), (x, nodeObj xd (.int xk xkt) (.int xv xvt) (.ref a) (.ref b) xr.ptr xl.ptr)]) (all3 ag bg xg)
      have e1 : (hideAll s.heap [a, b, x]).get? ad = some emptyDict := hideAll_get _ agd (by simp [nDict ag agd, nDict bg agd, nDict xg agd])
      have e2 : (hideAll s.heap [a, b, x]).get? bd = some emptyDict := hideAll_get _ bgd (by simp [nDict ag bgd, nDict bg bgd, nDict xg bgd])
      have e3 : (hideAll s.heap [a, b, x]).get? xd = some emptyDict := hideAll_get _ xgd (by simp [nDict ag xgd, nDict bg xgd, nDict xg xgd])
      refine cut_q_x X T hdp O e1 e2 e3 (fun e => n2 (by rw [e]; simp [Zp.addrs])) n1.1 (fun e => n5 _ (.inl rfl) b (by simp [Zp.addrs]) e.symm) (fun L' h' m' tk' F N => ?_)
      have St := hid_step (z := z) F (all3 (ndA _ (by simp)) (ndA _ (by simp [Zp.addrs])) (ndA _ (by simp [B.addrs])))
      refine hR h' tk' (St.mono (by simp [Zp.addrs, B.addrs]) ndA) ?_ ?_ ⟨ad, akt, avt, az, adz, news_get N (.head _), F.keep _ _ e1⟩
      · simp only [Zp.addrs, List.mem_cons, List.mem_append, not_or, List.nodup_cons, List.nodup_append] at n2 n4 n5
        refine ⟨⟨bd, bkt, bvt, bz, bdz, news_get N (.tail _ (.head _)), F.keep _ _ e2⟩, rb.step St fun q hq => ?_, ru.step St fun q hq => ?_⟩
        · simp only [List.mem_cons, List.not_mem_nil, or_false, not_or]
          exact ⟨fun e => n2.2.1 (e ▸ hq), fun e => n4.1.1 (e ▸ hq), fun e => n5 _ (.inl rfl) _ (.inr (.inl hq)) e.symm⟩
        · simp only [List.mem_cons, List.not_mem_nil, or_false, not_or]
          exact ⟨fun e => n2.2.2 (e ▸ hq), fun e => n4.1.2 (e ▸ hq), fun e => n5 _ (.inl rfl) _ (.inr (.inr hq)) e.symm⟩
      · refine ⟨⟨xd, xkt, xvt, xz, xdz, news_get N (.tail _ (.tail _ (.head _))), F.keep _ _ e3⟩, url.step St fun q hq => ?_, urr.step St fun q hq => ?_⟩
        · simp only [List.mem_cons, List.not_mem_nil, or_false, not_or]
          exact ⟨fun e => n1.2.1 (e ▸ hq), fun e => n5 _ (.inr (.inl hq)) b (by simp [Zp.addrs]) e, fun e => n3.1.1 (e ▸ hq)⟩
        · simp only [List.mem_cons, List.not_mem_nil, or_false, not_or]
          exact ⟨fun e => n1.2.2 (e ▸ hq), fun e => n5 _ (.inr (.inr hq)) b (by simp [Zp.addrs]) e, fun e => n3.1.2 (e ▸ hq)⟩
  | next b bk bv bl up =>
    obtain ⟨⟨bd, bkt, bvt, bz, bdz, bg, bgd⟩, rb, ru⟩ := hc
    simp only [Zp.par, Zp.prev] at *
    cases r with
    | nil =>
      obtain ⟨X, T⟩ := G.hid (l := [a, b]) S₀ (all2 az bz)
      have O := hid_on (h := s.heap) (news := [(a, nodeObj ad (.int k akt) (.int v avt) (.ref b) (.ref up.par) .none l.ptr), (b, nodeObj bd (.int bk bkt) (.int bv bvt) up.prev (.ref up.par) (.ref a) bl.ptr)]) (all2 ag bg)
      have e1 : (hideAll s.heap [a, b]).get? ad = some emptyDict := hideAll_get _ agd (by simp [nDict ag agd, nDict bg agd])
      have e2 : (hideAll s.heap [a, b]).get? bd = some emptyDict := hideAll_get _ bgd (by simp [nDict ag bgd, nDict bg bgd])
      refine cut_p_n X T hdp O e1 e2 (fun e => n2 (by rw [e]; simp [Zp.addrs])) (fun L' h' m' tk' F N => ?_)
      have St := hid_step (z := z) F (all2 (ndA _ (by simp)) (ndA _ (by simp [Zp.addrs])))
      refine hR h' tk' (St.mono (by simp [Zp.addrs, B.addrs]) ndA) ?_ ?_ ⟨ad, akt, avt, az, adz, news_get N (.head _), F.keep _ _ e1⟩
      · simp only [Zp.addrs, List.mem_cons, List.mem_append, not_or, List.nodup_cons, List.nodup_append] at n2 n4 n5
        refine ⟨⟨bd, bkt, bvt, bz, bdz, news_get N (.tail _ (.head _)), F.keep _ _ e2⟩, rb.step St fun q hq => ?_, ru.step St fun q hq => ?_⟩
        · simp only [List.mem_cons, List.not_mem_nil, or_false, not_or]
          exact ⟨fun e => n2.2.1 (e ▸ hq), fun e => n4.1.1 (e ▸ hq)⟩
        · simp only [List.mem_cons, List.not_mem_nil, or_false, not_or]
          exact ⟨fun e => n2.2.2 (e ▸ hq), fun e => n4.1.2 (e ▸ hq)⟩
      · trivial
    | node x xk xv xl xr =>
      simp only [Rep] at hr
      obtain ⟨⟨xd, xkt, xvt, xz, xdz, xg, xgd⟩, url, urr⟩ := hr
      simp only [B.addrs, List.mem_cons, List.mem_append, not_or, List.nodup_cons, List.nodup_append] at n1 n3 n5 ndB
      obtain ⟨X, T⟩ := G.hid (l := [a, b, x]) S₀ (all3 az bz xz)
      have O := hid_on (h := s.heap) (news := [(a, nodeObj ad (.int k akt) (.int v avt) (.ref b) (.ref up.par) (.ref x) l.ptr), (b, nodeObj bd (.int bk bkt) (.int bv bvt) up.prev (.ref up.par) (.ref a) bl.ptr), (x, nodeObj xd (.int xk xkt) (.int xv xvt) (.ref a) (.ref up.par) xr.ptr xl.ptr)]) (all3 ag bg xg)
      have e1 : (hideAll s.heap [a, b, x]).get? ad = some emptyDict := hideAll_get _ agd (by simp [nDict ag agd, nDict bg agd, nDict xg agd])
      have e2 : (hideAll s.heap [a, b, x]).get? bd = some emptyDict := hideAll_get _ bgd (by simp [nDict ag bgd, nDict bg bgd, nDict xg bgd])
      have e3 : (hideAll s.heap [a, b, x]).get? xd = some emptyDict := hideAll_get _ xgd (by simp [nDict ag xgd, nDict bg xgd, nDict xg xgd])
      refine cut_p_x X T hdp O e1 e2 e3 (fun e => n2 (by rw [e]; simp [Zp.addrs])) n1.1 (fun e => n5 _ (.inl rfl) b (by simp [Zp.addrs]) e.symm) (fun L' h' m' tk' F N => ?_)
      have St := hid_step (z := z) F (all3 (ndA _ (by simp)) (ndA _ (by simp [Zp.addrs])) (ndA _ (by simp [B.addrs])))
      refine hR h' tk' (St.mono (by simp [Zp.addrs, B.addrs]) ndA) ?_ ?_ ⟨ad, akt, avt, az, adz, news_get N (.head _), F.keep _ _ e1⟩
      · simp only [Zp.addrs, List.mem_cons, List.mem_append, not_or, List.nodup_cons, List.nodup_append] at n2 n4 n5
        refine ⟨⟨bd, bkt, bvt, bz, bdz, news_get N (.tail _ (.head _)), F.keep _ _ e2⟩, rb.step St fun q hq => ?_, ru.step St fun q hq => ?_⟩
        · simp only [List.mem_cons, List.not_mem_nil, or_false, not_or]
          exact ⟨fun e => n2.2.1 (e ▸ hq), fun e => n4.1.1 (e ▸ hq), fun e => n5 _ (.inl rfl) _ (.inr (.inl hq)) e.symm⟩
        · simp only [List.mem_cons, List.not_mem_nil, or_false, not_or]
          exact ⟨fun e => n2.2.2 (e ▸ hq), fun e => n4.1.2 (e ▸ hq), fun e => n5 _ (.inl rfl) _ (.inr (.inr hq)) e.symm⟩
      · refine ⟨⟨xd, xkt, xvt, xz, xdz, news_get N (.tail _ (.tail _ (.head _))), F.keep _ _ e3⟩, url.step St fun q hq => ?_, urr.step St fun q hq => ?_⟩
        · simp only [List.mem_cons, List.not_mem_nil, or_false, not_or]
          exact ⟨fun e => n1.2.1 (e ▸ hq), fun e => n5 _ (.inr (.inl hq)) b (by simp [Zp.addrs]) e, fun e => n3.1.1 (e ▸ hq)⟩
        · simp only [List.mem_cons, List.not_mem_nil, or_false, not_or]
          exact ⟨fun e => n1.2.2 (e ▸ hq), fun e => n5 _ (.inr (.inr hq)) b (by simp [Zp.addrs]) e, fun e => n3.1.2 (e ▸ hq)⟩
end
end
end
end
section
open PySem PySem.W PyProof.Rows PySem.Calls
section

noncomputable def truncH (h : Heap) (n : Nat) : Heap := ⟨h.objs.extract 0 n, h.life⟩
theorem trunc_size (h : Heap) (n : Nat) : (truncH h n).objs.size ≤ n := by
  show (h.objs.extract 0 n).size ≤ n
  rw [Array.size_extract]; omega
theorem trunc_get {h : Heap} {n b : Nat} {o : Obj} (e : h.get? b = some o) (hb : b < n) : (truncH h n).get? b = some o := by
  rw [Heap.get?_some_iff] at e ⊢
  refine ⟨?_, e.2⟩
  show (h.objs.extract 0 n)[b]? = some o
  rw [Array.getElem?_extract]
  simp only [Nat.zero_add, Nat.sub_zero]
  have hl : b < h.objs.size := (Array.getElem?_eq_some_iff.mp e.1).1
  rw [if_pos (by omega)]
  exact e.1
theorem of_trunc {h : Heap} {n b : Nat} {o : Obj} (e : (truncH h n).get? b = some o) : h.get? b = some o ∧ b < n := by
  have hb : b < (truncH h n).objs.size := Heap.lt_size e
  have hn := trunc_size h n
  have hbn : b < n := Nat.lt_of_lt_of_le hb hn
  refine ⟨?_, hbn⟩
  rw [Heap.get?_some_iff] at e ⊢
  refine ⟨?_, e.2⟩
  have e1 : (h.objs.extract 0 n)[b]? = some o := e.1
  rw [Array.getElem?_extract] at e1
  simp only [Nat.zero_add, Nat.sub_zero] at e1
  split at e1
  · exact e1
  · cases e1

noncomputable def restOf (h : Heap) (L : Nat) (l : List Nat) : List (Addr × Obj) :=
  (List.range h.objs.size).filterMap fun b => if L < b ∧ b ∉ l then (h.get? b).map fun o => (b, o) else none
theorem mem_rest {h : Heap} {L : Nat} {l : List Nat} {p : Addr × Obj} : p ∈ restOf h L l ↔ L < p.1 ∧ p.1 ∉ l ∧ h.get? p.1 = some p.2 := by
  obtain ⟨b, o⟩ := p
  simp only [restOf, List.mem_filterMap, List.mem_range]
  constructor
  · rintro ⟨c, hc, e⟩
    split at e
    · rename_i q
      obtain ⟨o', ho, e'⟩ := Option.map_eq_some_iff.mp e
      cases e'
      exact ⟨q.1, q.2, ho⟩
    · cases e
  · rintro ⟨h1, h2, h3⟩
    exact ⟨b, Heap.lt_size h3, by rw [if_pos ⟨h1, h2⟩]; rw [show h.get? b = some o from h3]; rfl⟩

inductive Focused (g0 h : Heap) (L : Nat) (m : Str → Option Value) (tl : List (Addr × Obj)) : Prop
  | mk (g : Heap) (rest : List (Addr × Obj)) (F : Fr g L h m) (N : News g L h (tl ++ rest)) (S : g0.StaysIn g) (ne : ∀ q ∈ tl, ∀ p ∈ rest, p.1 ≠ q.1)
      (kg : ∀ b o, h.get? b = some o → b < L → b ∉ tl.map (·.1) → g.get? b = some o) (le : g.objs.size ≤ L)
      (uns : ∀ h' m', Fr g L h' m' → News g L h' rest → ∀ b o, h.get? b = some o → b ≠ L → b ∉ tl.map (·.1) → h'.get? b = some o)
theorem focus {g0 h : Heap} {L : Nat} {m : Str → Option Value} (S : g0.StaysIn h) (hsz : g0.objs.size ≤ L) (ns : h.Ns L m) (tl : List (Addr × Obj)) (ht : ∀ p ∈ tl, h.get? p.1 = some p.2) (hL : ∀ p ∈ tl, p.1 ≠ L) (h0 : ∀ p ∈ tl, g0.get? p.1 = none) :
    Focused g0 h L m tl := by
  have keep : ∀ b o, h.get? b = some o → b < L → b ∉ tl.map (·.1) → (hideAll (truncH h L) (tl.map (·.1))).get? b = some o := fun b o e hb hn => hideAll_get _ (trunc_get e hb) hn
  have hge : (hideAll (truncH h L) (tl.map (·.1))).objs.size ≤ L := by rw [hideAll_size]; exact trunc_size h L
  refine ⟨hideAll (truncH h L) (tl.map (·.1)), restOf h L (tl.map (·.1)), ⟨ns, fun b o e => (of_trunc (of_hideAll _ e)).1, hge⟩, ?_, ?_, ?_, keep, hge, ?_⟩
  · intro p hp
    rcases List.mem_append.mp hp with hp | hp
    · exact ⟨ht p hp, hL p hp, hideAll_none _ (List.mem_map_of_mem hp)⟩
    · rw [mem_rest] at hp
      refine ⟨hp.2.2, Nat.ne_of_gt hp.1, ?_⟩
      cases q : (hideAll (truncH h L) (tl.map (·.1))).get? p.1 with
      | none => rfl
      | some o => exact absurd (of_trunc (of_hideAll _ q)).2 (Nat.lt_asymm hp.1)
  · intro b o e
    refine keep b o (S b o e) (Nat.lt_of_lt_of_le (Heap.lt_size e) hsz) fun q => ?_
    obtain ⟨p, hp, rfl⟩ := List.mem_map.mp q
    rw [h0 p hp] at e; cases e
  · intro q hq p hp e
    rw [mem_rest] at hp
    exact hp.2.1 (e ▸ List.mem_map_of_mem hq)
  · intro h' m' F N b o e hb hn
    rcases Nat.lt_or_gt_of_ne hb with q | q
    · exact F.keep b o (keep b o e q hn)
    · exact (N (b, o) (mem_rest.mpr ⟨q, hn, e⟩)).1

theorem ns_notEmpty {h : Heap} {L : Nat} {m : Str → Option Value} (ns : h.Ns L m) {x : Str} {v : Value} (hm : m x = some v) : h.get? L ≠ some emptyDict := by
  obtain ⟨o, es, ep, ho, hd, _, hf⟩ := ns
  intro e
  rw [ho] at e
  cases e
  injection hd with h1 h2
  subst h1
  have := hf x
  rw [hm] at this
  simp [nsFind, findBy] at this
theorem ns_notNode {h : Heap} {L : Nat} {m : Str → Option Value} (ns : h.Ns L m) {z : Nat} {a : Nat} {k v : Int} {l n p q : Value} (c : Cell z h a k v l n p q) : a ≠ L := by
  rintro rfl
  obtain ⟨dx, kt, vt, h1, h2, h3, h4⟩ := c
  obtain ⟨o, es, ep, ho, hd, _, hf⟩ := ns
  rw [h3] at ho
  cases ho
  cases hd
end
end
section
open PySem PySem.W PyProof.Rows PySem.Calls
section

theorem enterF {prog : Program} {w : World} {K : Frag} {A : Around} {s : Shared}
    {R : Result → Shared → Prop} {name qual : Str} {params : Arguments} {body : List Stmt} {scope : Scope} {dV kV doc pm cdv ct oc : Value} {an od : Option Addr} {osl : Array (Option Value)} {f : Addr} {args : Args} {binds : List (Str × Value)}
    (X : K.In s.heap) (hlim : s.heap.NoLimit)
    (ho : K.lookup f = some ⟨oc, od, .func (fnOf name qual params body scope dV kV doc pm an cdv ct), osl⟩) (hcd : codeIn K cdv qual = true) (hroom : A.depth < recursionLimit)
    (hbind : BindsTo s (fnOf name qual params body scope dV kV doc pm an cdv ct) args binds) (hloc : ∀ y ∈ binds, scope.names.lookup y.1 = some .local)
    (h : ∀ (L' : Nat) h₁ tk, h₁.Ns L' (fun y => binds.reverse.lookup y) → s.heap.objs.size ≤ L' → s.heap.StaysIn h₁ →
      wpAny (model prog w) (A.deeper (envOf qual scope L' f cdv)) (execs body (envOf qual scope L' f cdv))
        (fun fl s' => R (.ok (.ret (match fl with | .ret v => v | _ => .none))) s') (fun _ _ => False)
        { s with heap := h₁, toks := tk })
    (hco : scope.isCoroutine = false) (hgen : scope.isGenerator = false) (hk : scope.kind = .function)
    (hcell : ∀ x ∈ scope.names, x.2 ≠ .cell) : codeAny (model prog w) A (.call (.ref f) args) R s :=
  enter (g := s.heap) (news := []) ⟨Nat.le_refl _, fun _ _ e => e, fun _ hp => nomatch hp⟩ X hlim ho hcd hroom hbind hloc
    (fun L' h₁ F N => wpAny_mono (h L' h₁ _ F.ns F.above F.keep) (fun _ _ q => q) fun _ _ q => q.elim) hco hgen hk hcell

def TurnEnd (I : Nat → Heap → Prop) (s : Shared) (J : Heap → Prop) (n : Nat) (f : Flow) (s₃ : Shared) : Prop := match f with
  | .next | .cont => ∃ n' h' tk', s₃ = { s with heap := h', toks := tk' } ∧ n' < n ∧ I n' h'
  | .brk => ∃ h' tk', s₃ = { s with heap := h', toks := tk' } ∧ J h'
  | .ret _ => False

theorem While_own {prog : Program} {w : World} {A : Around} {s : Shared} {env : Env} {Q : Flow → Shared → Prop} {test : Expr} {body : List Stmt} {pos : Pos} (I : Nat → Heap → Prop) (J : Heap → Prop) (n₀ : Nat) (h₀ : I n₀ s.heap)
    (turn : ∀ n h tk, I n h → wpAny (model prog w) A (isTrue test env (eval test env)) (fun b s₂ =>
        if b = true then wpAny (model prog w) A (execs body env) (TurnEnd I s J n) (fun _ _ => False) s₂ else ∃ h' tk', s₂ = { s with heap := h', toks := tk' } ∧ J h') (fun _ _ => False) { s with heap := h, toks := tk })
    (done : ∀ h tk, J h → Q .next { s with heap := h, toks := tk }) :
    wpAny (model prog w) A (exec (.While test body [] pos) env) Q (fun _ _ => False) s := by
  have hE : PassesOwn (model prog w) A env (fun _ _ => False) := .never
  refine wpAny_While (codeAny_whileLoop (fun n s' => ∃ h₁ tk₁, s' = { s with heap := h₁, toks := tk₁ } ∧ I n h₁) ?_ n₀ ⟨s.heap, s.toks, rfl, h₀⟩)
  rintro n s' ⟨h₁, tk₁, rfl, J₁⟩
  refine wpAny_mono (turn n h₁ tk₁ J₁) (fun b s₂ h₂ => ?_) hE
  cases b with
  | false =>
    simp only [Bool.false_eq_true, if_false] at h₂ ⊢
    obtain ⟨h', tk', rfl, hj⟩ := h₂
    exact wpAny_execs_nil (done h' tk' hj)
  | true =>
    simp only [if_true] at h₂ ⊢
    refine wpAny_mono h₂ (fun f s₃ h₃ => ?_) hE
    cases f with
    | next => obtain ⟨n', h', tk', rfl, hn, hi⟩ := h₃; exact ⟨n', hn, h', tk', rfl, hi⟩
    | cont => obtain ⟨n', h', tk', rfl, hn, hi⟩ := h₃; exact ⟨n', hn, h', tk', rfl, hi⟩
    | brk => obtain ⟨h', tk', rfl, hj⟩ := h₃; exact done h' tk' hj
    | ret v => exact h₃.elim
end
end
section
open PySem PySem.W PyProof.Rows PySem.Calls
section

noncomputable def B.len : B → Nat
  | .nil => 0
  | .node _ _ _ _ r => r.len + 1
noncomputable def chI (ws : List Tp) : List (Nat × Int × Int) := ws.flatMap Tp.items
noncomputable def chA (ws : List Tp) : List Nat := ws.flatMap Tp.addrs
theorem chA_eq (ws : List Tp) : chA ws = (chI ws).map (·.1) := by
  induction ws with
  | nil => rfl
  | cons w ws ih =>
    simp only [chA, chI, List.flatMap_cons, List.map_append] at *
    rw [ih, Tp.addrs_items]
def Chain (z : Nat) (h : Heap) : List Tp → Value → Prop
  | [], p => p = .none
  | w :: ws, p => p = .ref w.a ∧ ∃ nx pa pr, TopF z h w nx pa pr ∧ Chain z h ws pr
theorem Chain.step {z : Nat} {F : List Nat} {h h' : Heap} (x : Step z F h h') : ∀ {ws : List Tp} {p : Value}, Chain z h ws p → (∀ a ∈ chA ws, a ∉ F) → Chain z h' ws p
  | [], _, e, _ => e
  | w :: ws, p, c, n => by
    obtain ⟨e, nx, pa, pr, r, c⟩ := c
    simp only [chA, List.flatMap_cons, List.mem_append] at n
    exact ⟨e, nx, pa, pr, r.step x fun a ha => n a (.inl ha), Chain.step x c fun a ha => n a (.inr ha)⟩
theorem Chain.cell {z : Nat} {h : Heap} : ∀ {ws : List Tp} {p : Value}, Chain z h ws p → ∀ a ∈ chA ws, ∃ k v l n p q, Cell z h a k v l n p q
  | [], _, _, _, ha => by simp [chA] at ha
  | w :: ws, p, c, a, ha => by
    obtain ⟨e, nx, pa, pr, r, c⟩ := c
    simp only [chA, List.flatMap_cons, List.mem_append] at ha
    exact ha.elim (fun q => r.cell a q) fun q => Chain.cell c a q

theorem ns_at2 {h : Heap} {L : Nat} {m : Str → Option Value} (ns : h.Ns L m) {x1 x2 : Str} {v1 v2 : Value} (h1 : m x1 = some v1) (h2 : m x2 = some v2) : h.Ns L (fun y => if y = x1 then some v1 else if y = x2 then some v2 else m y) := by
  have e : (fun y => if y = x1 then some v1 else if y = x2 then some v2 else m y) = m := by
    funext y
    repeat' split
    all_goals (try subst_vars)
    all_goals simp_all
  rw [e]; exact ns
theorem ns_at3 {h : Heap} {L : Nat} {m : Str → Option Value} (ns : h.Ns L m) {x1 x2 x3 : Str} {v1 v2 v3 : Value} (h1 : m x1 = some v1) (h2 : m x2 = some v2) (h3 : m x3 = some v3) : h.Ns L (fun y => if y = x1 then some v1 else if y = x2 then some v2 else if y = x3 then some v3 else m y) := by
  have e : (fun y => if y = x1 then some v1 else if y = x2 then some v2 else if y = x3 then some v3 else m y) = m := by
    funext y
    repeat' split
    all_goals (try subst_vars)
    all_goals simp_all
  rw [e]; exact ns
theorem ns_at4 {h : Heap} {L : Nat} {m : Str → Option Value} (ns : h.Ns L m) {x1 x2 x3 x4 : Str} {v1 v2 v3 v4 : Value} (h1 : m x1 = some v1) (h2 : m x2 = some v2) (h3 : m x3 = some v3) (h4 : m x4 = some v4) : h.Ns L (fun y => if y = x1 then some v1 else if y = x2 then some v2 else if y = x3 then some v3 else if y = x4 then some v4 else m y) := by
  have e : (fun y => if y = x1 then some v1 else if y = x2 then some v2 else if y = x3 then some v3 else if y = x4 then some v4 else m y) = m := by
    funext y
    repeat' split
    all_goals (try subst_vars)
    all_goals simp_all
  rw [e]; exact ns
theorem ns_step {h h' : Heap} {L : Nat} {m : Str → Option Value} {z : Nat} {F : List Nat} (ns : h.Ns L m) (x : Step z F h h') (n : L ∉ F) : h'.Ns L m := by
  obtain ⟨o, es, ep, ho, r⟩ := ns
  exact ⟨o, es, ep, x.keep _ _ ho n, r⟩
theorem notNode {z : Nat} {h : Heap} {q : Nat} {o : Obj} (hq : h.get? q = some o) (ho : o.cls ≠ .ref 83) {a : Nat} {k v : Int} {l n p r : Value} (c : Cell z h a k v l n p r) : a ≠ q := by
  rintro rfl
  obtain ⟨dx, kt, vt, h1, h2, h3, h4⟩ := c
  rw [hq] at h3
  cases h3
  exact ho rfl
theorem ns_ne {h : Heap} {L : Nat} {m : Str → Option Value} (ns : h.Ns L m) {q : Nat} {o : Obj} (hq : h.get? q = some o) (ho : ∀ es n, o.data ≠ .dict es n) : q ≠ L := by
  rintro rfl
  obtain ⟨o', es, ep, ho', hd, _⟩ := ns
  rw [hq] at ho'
  cases ho'
  exact ho _ _ hd

section
variable {z : Nat} {F : List Nat} {h h' : Heap} {L : Nat} {m : Str → Option Value}
theorem Cell.stepL (ns : h.Ns L m) (x : Step z (L :: F) h h') {a : Nat} {k v : Int} {l n p q : Value} (c : Cell z h a k v l n p q) (ha : a ∉ F) : Cell z h' a k v l n p q :=
  c.step x (by simp only [List.mem_cons, not_or]; exact ⟨ns_notNode ns c, ha⟩)
theorem Rep.stepL (ns : h.Ns L m) (x : Step z (L :: F) h h') {b : B} {p q : Value} (r : Rep z h p q b) (n : ∀ a ∈ b.addrs, a ∉ F) : Rep z h' p q b :=
  r.step x fun a ha => by
    obtain ⟨_, _, _, _, _, _, c⟩ := r.cell a ha
    simp only [List.mem_cons, not_or]; exact ⟨ns_notNode ns c, n a ha⟩
theorem TopC.stepL (ns : h.Ns L m) (x : Step z (L :: F) h h') {t : Tp} (c : TopC z h t) (n : ∀ a ∈ t.addrs, a ∉ F) : TopC z h' t :=
  c.step x fun a ha => by
    obtain ⟨_, _, _, _, _, _, c⟩ := c.cell a ha
    simp only [List.mem_cons, not_or]; exact ⟨ns_notNode ns c, n a ha⟩
theorem Chain.stepL (ns : h.Ns L m) (x : Step z (L :: F) h h') {ws : List Tp} {p : Value} (c : Chain z h ws p) (n : ∀ a ∈ chA ws, a ∉ F) : Chain z h' ws p :=
  c.step x fun a ha => by
    obtain ⟨_, _, _, _, _, _, c⟩ := c.cell a ha
    simp only [List.mem_cons, not_or]; exact ⟨ns_notNode ns c, n a ha⟩
end
theorem perm_addrs' {ws : List Tp} {x l : B} (h : (chI ws ++ x.items).Perm l.items) : (chA ws ++ x.addrs).Perm l.addrs := by
  have := h.map (·.1)
  rw [List.map_append, ← chA_eq, ← B.addrs_items, ← B.addrs_items] at this
  exact this
theorem perm_addrs2 {t : Tp} {ws : List Tp} {l : B} (h : (t.items ++ chI ws).Perm l.items) : (t.addrs ++ chA ws).Perm l.addrs := by
  have := h.map (·.1)
  rw [List.map_append, ← chA_eq, ← Tp.addrs_items, ← B.addrs_items] at this
  exact this
theorem perm_nodup {a : Nat} {x y : List Nat} (h : x.Perm y) (n : (a :: y).Nodup) : (a :: x).Nodup := (List.Perm.cons a h).nodup_iff.mpr n
end
end
section
open PySem PySem.W PyProof.Rows PySem.Calls
section
example : True := by
  w_top off
  k_with_none
  k_with "eval Name" => (k_here; k_dflt (refine' nameX_L ?F ?v ?_ ?a ?b; (case F => k_asm); (case a => exact Eq.refl _); (case b => exact Eq.refl (some NameKind.local)); (case v => exact Eq.refl (some _)); k_whole))
  k_with "k_ne" => (refine neN ?_; (try dsimp only); first | assumption | (apply Ne.symm; assumption))
  k_with "k_inst" => (first | (refine' instN ?F ?N ?h1 ?hd; (case F => k_asm); (case N => k_asm); (case h1 => k_mem); (case hd => assumption)) | (refine' instG ?F ?h1 ?hd; (case F => k_asm); (case h1 => assumption); (case hd => assumption)))
  k_with "k_inst" => ((refine' instR ?F ?N ?h1 ?hd ?hs; (case F => k_asm); (case N => k_asm); (case h1 => k_mem); (case hd => assumption); (case hs => (intro p9 h9; repeat (first | exact h9 | refine List.Mem.tail _ ?_)))))
  k_with "k_all" => (assumption)
  k_with "k_handed" => (assumption)
  k_with "exec While Constant cons nil" => (with_reducible show wpAny _ _ (PySem.exec (Stmt.While _ _ _ _) _) _ _ _; refine Hold.mk ?_)
  k_with "exec While Compare cons nil" => (with_reducible show wpAny _ _ (PySem.exec (Stmt.While _ _ _ _) _) _ _ _; refine Hold.mk ?_)
  k_with "call ref" => (with_reducible show wpAny _ _ (PySem.call (Value.ref _) _ _) _ _ _; refine Hold.mk ?_)
  k_with "k_room" => ((try simp only [depth_under_make, depth_under_kw, depth_in1, depth_deeper, depth_caller, depth_mark]); (try dsimp only); first | exact room_le (b := 1) (by assumption) (by decide) | exact room_le (b := 2) (by assumption) (by decide) | exact room_le (b := 3) (by assumption) (by decide) | exact room_le (b := 4) (by assumption) (by decide))
  trivial
set_option maxRecDepth 100000
set_option maxHeartbeats 8000000
theorem instG {g h : Heap} {L x C dx : Addr} {m : Str → Option Value} {od : Obj} {sl : Array (Option Value)} (F : Fr g L h m)
    (h1 : g.get? x = some (⟨.ref C, some dx, .plain, sl⟩ : Obj)) (hd : g.get? dx = some od) : InstAt h x ⟨.ref C, some dx, .plain, sl⟩ C (some od) := ⟨F.keep _ _ h1, rfl, rfl, F.keep _ _ hd⟩
theorem instR {g h : Heap} {L x C dx : Addr} {m : Str → Option Value} {news rest : List (Addr × Obj)} {od : Obj} {sl : Array (Option Value)} (F : Fr g L h m) (N : News g L h news)
    (h1 : (x, (⟨.ref C, some dx, .plain, sl⟩ : Obj)) ∈ news) (hd : ∀ h' m', Fr g L h' m' → News g L h' rest → h'.get? dx = some od) (hs : ∀ p ∈ rest, p ∈ news) :
    InstAt h x ⟨.ref C, some dx, .plain, sl⟩ C (some od) := ⟨(N _ h1).1, rfl, rfl, hd _ _ F fun p hp => N p (hs p hp)⟩
def Hold (P : Prop) : Prop := P
theorem Hold.mk {P : Prop} (h : Hold P) : P := h

noncomputable abbrev hdict (h1 h2 : Int) (t1 t2 : Tok) (D : Nat) (rt : Value) : Obj := dictOf [⟨h1, .str (Str.ofString "_dict") t1, .ref D⟩, ⟨h2, .str (Str.ofString "_root") t2, rt⟩] 2

theorem Step.onto {z : Nat} {F l : List Nat} {h0 h h' : Heap} {L : Nat} (x : Step z F h0 h) (hL : h0.objs.size ≤ L) (y : ∀ b o, h.get? b = some o → b ≠ L → b ∉ l → h'.get? b = some o) (sb : ∀ b ∈ l, b ∈ F) : Step z F h0 h' :=
  ⟨fun b o e n => y b o (x.keep b o e n) (fun q => Nat.lt_irrefl _ (Nat.lt_of_lt_of_le (Heap.lt_size e) (q ▸ hL))) fun q => n (sb b q), x.only⟩
theorem TurnEnd.break_ {I : Nat → Heap → Prop} {s : Shared} {J : Heap → Prop} {n : Nat} {h' : Heap} {tk' : Nat} (h : J h') : TurnEnd I s J n .brk { s with heap := h', toks := tk' } := ⟨h', tk', rfl, h⟩
theorem TurnEnd.next_ {I : Nat → Heap → Prop} {s : Shared} {J : Heap → Prop} {n : Nat} {h' : Heap} {tk' : Nat} (n' : Nat) (hn : n' < n) (h : I n' h') : TurnEnd I s J n .next { s with heap := h', toks := tk' } := ⟨n', h', tk', rfl, hn, h⟩
theorem staysStep {g0 h h' : Heap} {z : Nat} {F : List Nat} (S : g0.StaysIn h) (x : Step z F h h') (hz : g0.objs.size ≤ z) (hF : ∀ b ∈ F, z ≤ b) : g0.StaysIn h' :=
  fun b o e => x.keep b o (S b o e) fun q => Nat.lt_irrefl _ (Nat.lt_of_lt_of_le (Heap.lt_size e) (Nat.le_trans hz (hF b q)))
theorem topC_ne {z : Nat} {h : Heap} {t : Tp} (r : TopC z h t) {q : Nat} {o : Obj} (hq : h.get? q = some o) (ho : o.cls ≠ .ref 83) : q ∉ t.addrs := fun hx => by
  obtain ⟨_, _, _, _, _, _, c⟩ := r.cell q hx
  exact notNode hq ho c rfl
theorem topC_L {z L : Nat} {h : Heap} {m : Str → Option Value} {t : Tp} (r : TopC z h t) (ns : h.Ns L m) : L ∉ t.addrs := fun hx => by
  obtain ⟨_, _, _, _, _, _, c⟩ := r.cell L hx
  exact ns_notNode ns c rfl
theorem noneOf {g0 g : Heap} {q : Nat} (S : g0.StaysIn g) (e : g.get? q = none) : g0.get? q = none := by
  cases h : g0.get? q with
  | none => rfl
  | some o => rw [S q o h] at e; cases e
theorem keepAll {h h' g : Heap} {L : Nat} {tl rest : List (Addr × Obj)} (hu : ∀ b o, h.get? b = some o → b ≠ L → b ∉ tl.map (·.1) → h'.get? b = some o) (N : News g L h' (tl ++ rest)) (ht : ∀ p ∈ tl, h.get? p.1 = some p.2) :
    ∀ b o, h.get? b = some o → b ≠ L → b ∉ ([] : List Nat) → h'.get? b = some o := fun b o e n _ => by
  by_cases hb : b ∈ tl.map (·.1)
  · obtain ⟨p, hp, rfl⟩ := List.mem_map.mp hb
    rw [ht p hp] at e
    cases e
    exact (N p (List.mem_append_left _ hp)).1
  · exact hu b o e n hb
theorem methNe {h : Heap} {q d : Nat} {f v : Value} (hq : h.get? q = some (methodObj f v)) (hd : h.get? d = some emptyDict) : d ≠ q := fun e => by
  rw [e, hq] at hd
  injection hd with h1
  injection h1 with h2
  injection h2 with h3
  exact absurd h3 (by decide)
theorem stepOf {z : Nat} {l : List Nat} {h h' : Heap} {L : Nat} (nL : h.get? L ≠ some emptyDict) (y : ∀ b o, h.get? b = some o → b ≠ L → b ∉ l → h'.get? b = some o) (no : ∀ b ∈ l, h.get? b ≠ some emptyDict) : Step z (L :: l) h h' := by
  refine ⟨fun b o e n => ?_, fun b hb _ => ?_⟩
  · simp only [List.mem_cons, not_or] at n
    exact y b o e n.1 n.2
  · rcases List.mem_cons.mp hb with rfl | hb
    · exact nL
    · exact no b hb

section
variable {w : World} {dp un : Nat} {gd : Option (List Code)} {outer : List Env} {mean : ExcName → Option Value} {mg mb : Str → Option Value} {g0 : Heap} {z : Nat} {R : Result → Shared → Prop} {s : Shared} {self : Value}

structure MB (g0 : Heap) (z L H : Nat) (h0 : Heap) (a : Nat) (k v : Int) (nx pa pr : Value) (l : B) (h : Heap) (m : Str → Option Value) (q : Nat) : Prop where
  ns : h.Ns L m
  mself : m (Str.ofString "self") = some (.ref H)
  mlink : m (Str.ofString "link") = some (.ref q)
  st : g0.StaysIn h
  hq : h.get? q = some (methodObj (.ref 184) (.ref H))
  q0 : g0.get? q = none
  ca : Cell z h a k v .none nx pa pr
  stp : Step z (a :: l.addrs) h0 h

inductive MI1 (g0 : Heap) (z L H : Nat) (h0 : Heap) (a : Nat) (k v : Int) (nx pa pr : Value) (l : B) (n : Nat) (h : Heap) : Prop
  | mk (ws : List Tp) (b : Nat) (bk bv : Int) (bl br : B) (pp pv : Value) (q : Nat) (m : Str → Option Value) (mb : MB g0 z L H h0 a k v nx pa pr l h m q)
    (mn : m (Str.ofString "node") = some (.ref b)) (mp : m (Str.ofString "prev") = some pv) (rp : Rep z h (.ref a) pp (.node b bk bv bl br)) (ch : Chain z h ws pv)
    (pm : (chI ws ++ (B.node b bk bv bl br).items).Perm l.items) (od : ∀ lo, l.ge lo → (∀ w ∈ ws, w.ord) ∧ (B.node b bk bv bl br).ge lo) (ln : (B.node b bk bv bl br).len = n)
inductive MJ1 (g0 : Heap) (z L H : Nat) (h0 : Heap) (a : Nat) (k v : Int) (nx pa pr : Value) (l : B) (h : Heap) : Prop
  | mk (w : Tp) (ws : List Tp) (q : Nat) (m : Str → Option Value) (mb : MB g0 z L H h0 a k v nx pa pr l h m q)
    (mn : m (Str.ofString "node") = some (.ref w.a)) (ch : Chain z h (w :: ws) (.ref w.a)) (pm : (chI (w :: ws)).Perm l.items) (od : ∀ lo, l.ge lo → ∀ u ∈ w :: ws, u.ord)
inductive MI2 (g0 : Heap) (z L H : Nat) (h0 : Heap) (a : Nat) (k v : Int) (nx pa pr : Value) (l : B) (n : Nat) (h : Heap) : Prop
  | mk (t : Tp) (ws : List Tp) (pv : Value) (q : Nat) (m : Str → Option Value) (mb : MB g0 z L H h0 a k v nx pa pr l h m q)
    (mn : m (Str.ofString "node") = some (.ref t.a)) (mp : m (Str.ofString "prev") = some pv) (tc : TopC z h t) (ch : Chain z h ws pv) (pm : (t.items ++ chI ws).Perm l.items) (od : ∀ lo, l.ge lo → ∀ u ∈ t :: ws, u.ord) (ln : ws.length = n)
inductive MJ2 (g0 : Heap) (z L H : Nat) (h0 : Heap) (a : Nat) (k v : Int) (nx pa pr : Value) (l : B) (h : Heap) : Prop
  | mk (t : Tp) (q : Nat) (m : Str → Option Value) (mb : MB g0 z L H h0 a k v nx pa pr l h m q)
    (mn : m (Str.ofString "node") = some (.ref t.a)) (tc : TopC z h t) (pm : t.items.Perm l.items) (od : ∀ lo, l.ge lo → t.ord)

theorem merge_spec {a H I D : Nat} {k v : Int} {l : B} {nx pa pr rt : Value} {q1 q2 : Int} {u1 u2 : Tok} (G : Gd w mean mg mb g0 z) (S₀ : g0.StaysIn s.heap) (hdp : dp + 20 < recursionLimit)
    (hH : s.heap.get? H = some (instObj 201 I)) (hI : s.heap.get? I = some (hdict q1 q2 u1 u2 D rt)) (hsz : g0.objs.size ≤ s.heap.objs.size)
    (ha : Cell z s.heap a k v l.ptr nx pa pr) (hl : Rep z s.heap (.ref a) .none l) (nd : (a :: l.addrs).Nodup)
    (hRn : l = .nil → ∀ h' tk, Step z (a :: l.addrs) s.heap h' → Cell z h' a k v .none nx pa pr → R (.ok (.ret .none)) { s with heap := h', toks := tk })
    (hRs : ∀ h' tk t, Step z (a :: l.addrs) s.heap h' → Cell z h' a k v .none nx pa pr → TopC z h' t → t.items.Perm l.items → (∀ lo, l.ge lo → t.ord) → R (.ok (.ret (.ref t.a))) { s with heap := h', toks := tk }) :
    codeAny (model Challenge.rw_bf0021_01.row.prog w) (Ar dp un gd outer) (.call (.ref 191) ⟨[.ref H, .ref a], []⟩) R s := by
  have XS := G.X.keeps S₀
  have TS := G.T.keeps S₀
  have nD : ∀ b ∈ a :: l.addrs, z ≤ b → s.heap.get? b ≠ some emptyDict := fun b hb => by
    rcases List.mem_cons.mp hb with rfl | hb
    · exact fun _ => ha.notDict
    · exact hl.notDict b hb
  k_dflt (refine' enterF XS TS.nolimit ?k1 ?k2 ?k3 ?k4 ?k5 ?k6 ?c1 ?c2 ?c3 ?c4;
          (case k1 => k_is);
          (case k2 => k_is);
          (case k3 => simp only []; omega);
          (case k4 => exact BindsTo.of_eq rfl);
          (case k5 => exact locs rfl);
          (case c1 => exact rfl);
          (case c2 => exact rfl);
          (case c3 => exact rfl);
          (case c4 => decide))
  intro L h₁ tk₁ ns₁ hL ks₁
  have hLz : g0.objs.size ≤ L := Nat.le_trans hsz hL
  have hHI : I ≠ H := fun e => by rw [e, hH] at hI; cases hI
  have hneH : a ≠ H := notNode hH (by intro e; cases e) ha
  have hneI : a ≠ I := notNode hI (by intro e; cases e) ha
  have ha' := ha
  obtain ⟨ad, akt, avt, az, adz, ag, agd⟩ := ha
  have lt : ∀ {b o}, s.heap.get? b = some o → b < L := fun e => Nat.lt_of_lt_of_le (Heap.lt_size e) hL
  have h0n : ∀ {b : Nat}, z ≤ b → g0.get? b = none := fun {b} hb => by
    cases e : g0.get? b with
    | none => rfl
    | some o => exact absurd (Nat.lt_of_lt_of_le (Heap.lt_size e) G.sz) (Nat.not_lt.mpr hb)
  obtain ⟨g, rest, F, N, Sg, hne, kg, _, un1⟩ := focus (fun b o e => ks₁ b o (S₀ b o e)) hLz ns₁ [(a, nodeObj ad (.int k akt) (.int v avt) pr pa nx l.ptr)]
    (by simp only [List.mem_singleton, forall_eq]; exact ks₁ _ _ ag) (by simp only [List.mem_singleton, forall_eq]; exact Nat.ne_of_lt (lt ag)) (by simp only [List.mem_singleton, forall_eq]; exact h0n az)
  have X := G.X.keeps Sg
  have T := G.T.keeps Sg
  have e1 : g.get? ad = some emptyDict := kg _ _ (ks₁ _ _ agd) (lt agd) (by simpa using nDict ag agd)
  have e2 : g.get? H = some (instObj 201 I) := kg _ _ (ks₁ _ _ hH) (lt hH) (by simpa using Ne.symm hneH)
  have e3 : g.get? I = some (hdict q1 q2 u1 u2 D rt) := kg _ _ (ks₁ _ _ hI) (lt hI) (by simpa using Ne.symm hneI)
  have hr := hne _ (.head _)
  simp only [List.cons_append, List.nil_append] at N
  dsimp only at hr
  clear hne
  have St0 : Step z (a :: l.addrs) s.heap h₁ := ⟨fun b o e _ => ks₁ b o e, nD⟩
  cases l with
  | nil =>
    dsimp only [B.ptr] at *
    (try dsimp only)
    with_reducible show wpAny _ _ _ _ _ _
    k_fold
    k_steps
    have hu := un1 _ _ (by assumption) (newsTail (by assumption))
    refine hRn rfl _ _ (St0.onto hL hu (by simp)) ?_
    with_reducible rename News _ _ _ _ => N1
    exact ⟨ad, akt, avt, az, adz, news_get N1 (.head _), hu _ _ (ks₁ _ _ agd) (Nat.ne_of_lt (lt agd)) (by simpa using nDict ag agd)⟩
  | node b bk bv bl br =>
    dsimp only [B.ptr] at *
    (try dsimp only)
    with_reducible show wpAny _ _ _ _ _ _
    k_fold
    k_steps
    with_reducible rename Fr _ _ _ _ => F1
    with_reducible rename News _ _ _ _ => N1
    have hu := un1 _ _ F1 (newsTail (newsTail N1))
    have hL0 : ∀ {b o}, s.heap.get? b = some o → b ≠ a → _ := fun {b o} e n => hu b o (ks₁ b o e) (Nat.ne_of_lt (lt e)) (by simpa using n)
    have ca1 := news_get N1 (.tail _ (.head _))
    have cq1 := news_get N1 (.head _)
    have q01 := noneOf Sg (N1 _ (.head _)).2.2
    have nd' := nd
    simp only [B.addrs, List.nodup_cons, List.mem_cons, List.mem_append, not_or] at nd'
    unfold Hold
    refine While_own (MI1 g0 z L H s.heap a k v nx pa pr (.node b bk bv bl br)) (MJ1 g0 z L H s.heap a k v nx pa pr (.node b bk bv bl br)) (B.node b bk bv bl br).len ?_ ?_ ?_
    · have St1 : Step z (a :: (B.node b bk bv bl br).addrs) s.heap _ := St0.onto hL hu (by simp)
      have dA := hL0 agd (by simpa using nDict ag agd)
      refine ⟨[], b, bk, bv, bl, br, .none, .none, _, _, ⟨F1.ns, by rfl, by rfl, fun b o e => F1.keep b o (Sg b o e), cq1, q01, ⟨ad, akt, avt, az, adz, ca1, dA⟩, St1⟩, by rfl, by rfl, ?_, rfl, ?_, fun lo h => ⟨by simp, h⟩, rfl⟩
      · refine hl.step (F := [a]) ⟨fun b o e n => hL0 e (by simpa using n), by simp only [List.mem_singleton, forall_eq]; exact nD a (.head _)⟩ fun x hx => ?_
        simp only [List.mem_singleton]
        rintro rfl
        simp only [B.addrs, List.mem_cons, List.mem_append] at hx
        rcases hx with hx | hx | hx
        · exact nd'.1.1 hx
        · exact nd'.1.2.1 hx
        · exact nd'.1.2.2 hx
      · simp [chI]
    · clear nd' hu hL0 ca1 cq1 q01 F1 N1 X T e1 e2 e3 hr un1 kg Sg
      generalize B.node b bk bv bl br = l at *
      rintro n h tk ⟨ws, b, bk, bv, bl, br, pp, pv, q, m, MBh, mnode, mprev, ⟨cb, rl, rr⟩, hch, hperm, hord, hlen⟩
      have cbn := ns_notNode MBh.ns cb
      obtain ⟨bd, bkt, bvt, bz, bdz, bg, bgd⟩ := cb
      have nL := ns_notEmpty MBh.ns MBh.mself
      have nsm := ns_at4 MBh.ns MBh.mself MBh.mlink mnode mprev
      have hpa := perm_addrs' hperm
      have ndp := perm_nodup hpa nd
      have sub : ∀ x ∈ chA ws ++ (B.node b bk bv bl br).addrs, x ∈ a :: l.addrs := fun x hx => .tail _ (hpa.mem_iff.mp hx)
      simp only [B.addrs, List.nodup_cons, List.mem_cons, List.mem_append, not_or, List.nodup_append] at ndp
      obtain ⟨⟨p1, p2, p3, p4⟩, p5, ⟨⟨p6, p7⟩, p8, p9, p10⟩, p11⟩ := ndp
      have qL := ns_ne MBh.ns MBh.hq (fun es n => by intro e; cases e)
      have qb : q ≠ b := Ne.symm (notNode MBh.hq (by intro e; cases e) ⟨bd, bkt, bvt, bz, bdz, bg, bgd⟩)
      cases br with
      | nil =>
        obtain ⟨g, rest, F, N, Sg, hne, kg, _, uns⟩ := focus MBh.st hLz nsm [(b, nodeObj bd (.int bk bkt) (.int bv bvt) pp (.ref a) .none bl.ptr)]
          (by simp only [List.mem_singleton, forall_eq]; exact bg) (by simp only [List.mem_singleton, forall_eq]; exact cbn) (by simp only [List.mem_singleton, forall_eq]; exact h0n bz)
        have X := G.X.keeps Sg
        have T := G.T.keeps Sg
        have hr := hne _ (.head _)
        simp only [List.cons_append, List.nil_append] at N
        dsimp only at hr
        have eb : ∀ h' m', Fr g L h' m' → News g L h' rest → h'.get? bd = some emptyDict := fun h' m' F' N' => uns h' m' F' N' bd _ bgd (fun e => nL (e ▸ bgd)) (by simpa using nDict bg bgd)
        clear hne kg
        with_reducible show wpAny _ _ _ _ _ _
        k_fold
        k_steps
        with_reducible rename Fr _ _ _ _ => F1
        with_reducible rename News _ _ _ _ => N1
        have hu := uns _ _ F1 (newsTail N1)
        have Sx := stepOf (z := z) (l := [b]) nL (fun x o e e1 e2 => hu x o e e1 (by simpa using e2)) (by simp only [List.mem_singleton, forall_eq]; rw [bg]; exact node_ne_empty)
        have hu' : ∀ x o, h.get? x = some o → x ≠ L → x ≠ b → _ := fun x o e n1 n2 => hu x o e n1 (by simpa using n2)
        refine TurnEnd.break_ (tk' := _) ⟨⟨b, bk, bv, bl⟩, ws, q, _, ⟨F1.ns, by rfl, by rfl, fun b o e => F1.keep b o (Sg b o e), hu' _ _ MBh.hq qL qb, MBh.q0, MBh.ca.stepL MBh.ns Sx (by simpa using p2), MBh.stp.onto hL hu (by simp only [List.map_cons, List.map_nil, List.mem_singleton, forall_eq]; exact sub b (by simp [B.addrs]))⟩,
          by rfl, ⟨rfl, .none, .ref a, pv, ⟨⟨bd, bkt, bvt, bz, bdz, news_get N1 (.head _), hu' _ _ bgd (fun e => nL (e ▸ bgd)) (nDict bg bgd)⟩, rl.stepL MBh.ns Sx fun x hx => ?_⟩, hch.stepL MBh.ns Sx fun x hx => ?_⟩, ?_, ?_⟩
        · simp only [List.mem_singleton]; rintro rfl; exact p6 hx
        · simp only [List.mem_singleton]; rintro rfl; exact p11 _ hx _ (.inl rfl) rfl
        · refine List.Perm.trans ?_ hperm
          simp only [chI, List.flatMap_cons, Tp.items, B.items, List.append_nil]
          exact List.perm_append_comm
        · intro lo hlo u hu
          obtain ⟨o1, o2⟩ := hord lo hlo
          rcases List.mem_cons.mp hu with rfl | hu
          · exact o2.2.1
          · exact o1 u hu
      | node c ck cv cl cr =>
        obtain ⟨cc, rcl, rcr⟩ := rr
        have ccn := ns_notNode MBh.ns cc
        have qc : q ≠ c := Ne.symm (notNode MBh.hq (by intro e; cases e) cc)
        have bT : TopC z h ⟨b, bk, bv, bl⟩ := ⟨_, _, _, ⟨bd, bkt, bvt, bz, bdz, bg, bgd⟩, rl⟩
        have cT : TopC z h ⟨c, ck, cv, cl⟩ := ⟨_, _, _, cc, rcl⟩
        obtain ⟨cd, ckt, cvt, cz, cdz, cg, cgd⟩ := cc
        have htl : ∀ p ∈ [(q, methodObj (.ref 184) (.ref H)), (b, nodeObj bd (.int bk bkt) (.int bv bvt) pp (.ref a) (.ref c) bl.ptr), (c, nodeObj cd (.int ck ckt) (.int cv cvt) (.ref b) (.ref a) cr.ptr cl.ptr)], h.get? p.1 = some p.2 := all3 MBh.hq bg cg
        obtain ⟨g, rest, F, N, Sg, hne, kg, _, uns⟩ := focus MBh.st hLz nsm [(q, methodObj (.ref 184) (.ref H)), (b, nodeObj bd (.int bk bkt) (.int bv bvt) pp (.ref a) (.ref c) bl.ptr), (c, nodeObj cd (.int ck ckt) (.int cv cvt) (.ref b) (.ref a) cr.ptr cl.ptr)]
          htl (all3 qL cbn ccn) (all3 MBh.q0 (h0n bz) (h0n cz))
        have X := G.X.keeps Sg
        have T := G.T.keeps Sg
        simp only [List.cons_append, List.nil_append] at N
        have eb : ∀ h' m', Fr g L h' m' → News g L h' rest → h'.get? bd = some emptyDict := fun h' m' F' N' => uns h' m' F' N' bd _ bgd (fun e => nL (e ▸ bgd)) (by simpa using ⟨methNe MBh.hq bgd, nDict bg bgd, nDict cg bgd⟩)
        have ec : ∀ h' m', Fr g L h' m' → News g L h' rest → h'.get? cd = some emptyDict := fun h' m' F' N' => uns h' m' F' N' cd _ cgd (fun e => nL (e ▸ cgd)) (by simpa using ⟨methNe MBh.hq cgd, nDict bg cgd, nDict cg cgd⟩)
        clear hne kg
        have hcr : handedIn cr.ptr = true := by cases cr <;> rfl
        with_reducible show wpAny _ _ _ _ _ _
        k_fold
        k_steps
        unfold Hold
        with_reducible rename Fr _ _ _ _ => F1
        with_reducible rename News _ _ _ _ => N1
        have hu1 := keepAll (uns _ _ F1 (newsTail (newsTail (newsTail N1)))) N1 htl
        have Sx1 := stepOf (z := z) (l := []) nL hu1 (by simp)
        have bT1 := bT.stepL MBh.ns Sx1 (by simp)
        have cT1 := cT.stepL MBh.ns Sx1 (by simp)
        refine call_meth N1 (.head _) ?_
        have hX : ((⟨b, bk, bv, bl⟩ : Tp).addrs ++ (⟨c, ck, cv, cl⟩ : Tp).addrs) ++ cr.addrs = (B.node b bk bv bl (.node c ck cv cl cr)).addrs := by simp [Tp.addrs, B.addrs]
        have hpa2 := hpa
        rw [← hX] at hpa2
        have nd2 := perm_nodup hpa2 nd
        generalize hXX : (⟨b, bk, bv, bl⟩ : Tp).addrs ++ (⟨c, ck, cv, cl⟩ : Tp).addrs = X2 at *
        have ndu : ((⟨b, bk, bv, bl⟩ : Tp).addrs ++ (⟨c, ck, cv, cl⟩ : Tp).addrs).Nodup := by
          rw [hXX]
          exact (List.nodup_append.mp (List.nodup_append.mp (List.nodup_cons.mp nd2).2).2.1).1
        refine link_spec (t := ⟨b, bk, bv, bl⟩) (u := ⟨c, ck, cv, cl⟩) G ?kS ?kd ?kb ?kc ndu ?kR
        case kS => exact fun b o e => F1.keep b o (Sg b o e)
        case kd => show dp + 1 + 10 < recursionLimit; first | exact room_le (d := dp) (b := 11) hdp (by decide) | omega
        case kb => exact bT1
        case kc => exact cT1
        case kR =>
        intro h2 tk2 St2 TC2
        have perm2 := linkT_items ⟨b, bk, bv, bl⟩ ⟨c, ck, cv, cl⟩
        have perm2a := linkT_addrs ⟨b, bk, bv, bl⟩ ⟨c, ck, cv, cl⟩
        have ord2 := linkT_ord (t := ⟨b, bk, bv, bl⟩) (u := ⟨c, ck, cv, cl⟩)
        generalize linkT ⟨b, bk, bv, bl⟩ ⟨c, ck, cv, cl⟩ = u at *
        rw [hXX] at St2 perm2a
        dsimp only at St2
        have X2le : ∀ x ∈ X2, z ≤ x := by
          rw [← hXX]; exact fun x hx => (List.mem_append.mp hx).elim (bT1.le x) (cT1.le x)
        have nLX : L ∉ X2 := by
          rw [← hXX]; exact fun hx => (List.mem_append.mp hx).elim (topC_L bT1 F1.ns) (topC_L cT1 F1.ns)
        have cq1 := news_get N1 (.head _)
        have nqX : q ∉ X2 := by
          rw [← hXX]; exact fun hx => (List.mem_append.mp hx).elim (topC_ne bT1 cq1 (by intro e; cases e)) (topC_ne cT1 cq1 (by intro e; cases e))
        simp only [List.nodup_cons, List.mem_append, not_or, List.nodup_append] at nd2
        obtain ⟨⟨na1, na2, na3⟩, _, ⟨_, _, nXr⟩, nwX⟩ := nd2
        have S2 := staysStep (fun b o e => F1.keep b o (Sg b o e)) St2 G.sz X2le
        have ns2 := ns_step F1.ns St2 nLX
        have ca2 := (MBh.ca.stepL MBh.ns Sx1 (by simp)).step St2 na2
        have ch2 := (hch.stepL MBh.ns Sx1 (by simp)).step St2 (fun x hx hx2 => nwX x hx x (.inl hx2) rfl)
        have cr2 := (rcr.stepL MBh.ns Sx1 (by simp)).step St2 (fun x hx hx2 => nXr x hx2 x hx rfl)
        have cq2 := St2.keep _ _ cq1 nqX
        have stp1 := MBh.stp.onto hL hu1 (by simp)
        have stp2 : Step z (a :: l.addrs) s.heap h2 := ⟨fun x o e n => St2.keep x o (stp1.keep x o e n) fun hx => n (.tail _ (hpa2.mem_iff.mp (List.mem_append_right _ (List.mem_append_left _ hx)))), nD⟩
        have nL2 := ns_notEmpty ns2 (x := Str.ofString "self") (by rfl)
        obtain ⟨unx, upa, upr, ⟨ud, ukt, uvt, uz, udz, ug, ugd⟩, url⟩ := TC2
        have uN : u.a ∉ u.l.addrs := (List.nodup_cons.mp (perm2a.nodup_iff.mpr (hXX ▸ ndu))).1
        have uX : u.a ∈ X2 := perm2a.mem_iff.mp (.head _)
        have uL : u.a ≠ L := fun e => nLX (e ▸ uX)
        have qu : q ≠ u.a := fun e => nqX (e ▸ uX)
        have qL2 := ns_ne ns2 cq2 (fun es n => by intro e; cases e)
        clear uns Sx1 F1 N1 hu1 bT1 cT1 eb ec X T St2
        obtain ⟨g, rest, F, N, Sg, hne, kg, _, uns⟩ := focus S2 hLz ns2 [(u.a, nodeObj ud (.int u.k ukt) (.int u.v uvt) upr upa unx u.l.ptr)]
          (by simp only [List.mem_singleton, forall_eq]; exact ug) (by simp only [List.mem_singleton, forall_eq]; exact uL) (by simp only [List.mem_singleton, forall_eq]; exact h0n uz)
        have X := G.X.keeps Sg
        have T := G.T.keeps Sg
        have hr := hne _ (.head _)
        simp only [List.cons_append, List.nil_append] at N
        dsimp only at hr
        have eu : ∀ h' m', Fr g L h' m' → News g L h' rest → h'.get? ud = some emptyDict := fun h' m' F' N' => uns h' m' F' N' ud _ ugd (fun e => nL2 (e ▸ ugd)) (by simpa using nDict ug ugd)
        clear hne kg
        cases cr with
        | nil =>
          dsimp only [B.ptr] at F
          with_reducible show wpAny _ _ _ _ _ _
          k_fold
          k_steps
          with_reducible rename Fr _ _ _ _ => F1
          with_reducible rename News _ _ _ _ => N1
          have hu := uns _ _ F1 (newsTail N1)
          have hu' : ∀ x o, h2.get? x = some o → x ≠ L → x ≠ u.a → _ := fun x o e n1 n2 => hu x o e n1 (by simpa using n2)
          have Sx := stepOf (z := z) (l := [u.a]) nL2 (fun x o e e1 e2 => hu x o e e1 (by simpa using e2)) (by simp only [List.mem_singleton, forall_eq]; rw [ug]; exact node_ne_empty)
          refine TurnEnd.break_ (tk' := _) ⟨u, ws, q, _, ⟨F1.ns, by rfl, by rfl, fun b o e => F1.keep b o (Sg b o e), hu' _ _ cq2 qL2 qu, MBh.q0, ca2.stepL ns2 Sx (by simp only [List.mem_singleton]; rintro rfl; exact na2 uX), stp2.onto hL hu (by simp only [List.map_cons, List.map_nil, List.mem_singleton, forall_eq]; exact .tail _ (hpa2.mem_iff.mp (List.mem_append_right _ (List.mem_append_left _ uX))))⟩,
            by rfl, ⟨rfl, unx, upa, pv, ⟨⟨ud, ukt, uvt, uz, udz, news_get N1 (.head _), hu' _ _ ugd (fun e => nL2 (e ▸ ugd)) (nDict ug ugd)⟩, url.stepL ns2 Sx fun x hx => ?_⟩, ch2.stepL ns2 Sx fun x hx => ?_⟩, ?_, ?_⟩
          · simp only [List.mem_singleton]; rintro rfl; exact uN hx
          · simp only [List.mem_singleton]; rintro rfl; exact nwX _ hx _ (.inl uX) rfl
          · refine List.Perm.trans ?_ hperm
            simp only [chI, List.flatMap_cons, B.items, List.append_nil]
            refine List.perm_append_comm.trans (List.Perm.append_left _ (perm2.trans ?_))
            simp [Tp.items]
          · intro lo hlo y hy
            obtain ⟨o1, o2⟩ := hord lo hlo
            rcases List.mem_cons.mp hy with rfl | hy
            · exact ord2 o2.2.1 o2.2.2.2.1
            · exact o1 y hy
        | node d dk dv dl dr =>
          dsimp only [B.ptr] at F
          with_reducible show wpAny _ _ _ _ _ _
          k_fold
          k_steps
          with_reducible rename Fr _ _ _ _ => F1
          with_reducible rename News _ _ _ _ => N1
          have hu := uns _ _ F1 (newsTail N1)
          have hu' : ∀ x o, h2.get? x = some o → x ≠ L → x ≠ u.a → _ := fun x o e n1 n2 => hu x o e n1 (by simpa using n2)
          have Sx := stepOf (z := z) (l := [u.a]) nL2 (fun x o e e1 e2 => hu x o e e1 (by simpa using e2)) (by simp only [List.mem_singleton, forall_eq]; rw [ug]; exact node_ne_empty)
          refine TurnEnd.next_ (tk' := _) (B.node d dk dv dl dr).len ?_ ⟨u :: ws, d, dk, dv, dl, dr, .ref c, .ref u.a, q, _, ⟨F1.ns, by rfl, by rfl, fun b o e => F1.keep b o (Sg b o e), hu' _ _ cq2 qL2 qu, MBh.q0, ca2.stepL ns2 Sx (by simp only [List.mem_singleton]; rintro rfl; exact na2 uX), stp2.onto hL hu (by simp only [List.map_cons, List.map_nil, List.mem_singleton, forall_eq]; exact .tail _ (hpa2.mem_iff.mp (List.mem_append_right _ (List.mem_append_left _ uX))))⟩,
            by rfl, by rfl, cr2.stepL ns2 Sx fun x hx => ?_, ⟨rfl, unx, upa, pv, ⟨⟨ud, ukt, uvt, uz, udz, news_get N1 (.head _), hu' _ _ ugd (fun e => nL2 (e ▸ ugd)) (nDict ug ugd)⟩, url.stepL ns2 Sx fun x hx => ?_⟩, ch2.stepL ns2 Sx fun x hx => ?_⟩, ?_, ?_, rfl⟩
          · rw [← hlen]; simp only [B.len]; omega
          · simp only [List.mem_singleton]; rintro rfl; exact nXr _ uX _ hx rfl
          · simp only [List.mem_singleton]; rintro rfl; exact uN hx
          · simp only [List.mem_singleton]; rintro rfl; exact nwX _ hx _ (.inl uX) rfl
          · refine List.Perm.trans ?_ hperm
            simp only [chI, List.flatMap_cons]
            refine (List.Perm.append_right _ List.perm_append_comm).trans ?_
            rw [List.append_assoc]
            refine List.Perm.append_left _ ((List.Perm.append_right _ perm2).trans ?_)
            simp [Tp.items, B.items]
          · intro lo hlo
            obtain ⟨o1, o2⟩ := hord lo hlo
            refine ⟨fun y hy => ?_, o2.2.2.2.2⟩
            rcases List.mem_cons.mp hy with rfl | hy
            · exact ord2 o2.2.1 o2.2.2.2.1
            · exact o1 y hy
    · clear nd' hu hL0 ca1 cq1 q01 F1 N1 X e1 e2 e3 hr un1 kg Sg
      generalize B.node b bk bv bl br = l at *
      rintro h tk ⟨w1, ws, q, m, MBh, mnode, ⟨-, wnx, wpa, wpr, ⟨cw, rw1⟩, hch⟩, hperm, hord⟩
      have cwn := ns_notNode MBh.ns cw
      have wT : TopC z h w1 := ⟨_, _, _, cw, rw1⟩
      obtain ⟨wd, wkt, wvt, wz, wdz, wg, wgd⟩ := cw
      have nL := ns_notEmpty MBh.ns MBh.mself
      have nsm := ns_at3 MBh.ns MBh.mself MBh.mlink mnode
      have qL := ns_ne MBh.ns MBh.hq (fun es n => by intro e; cases e)
      have hwpr : handedIn wpr = true := by
        cases ws with
        | nil => obtain rfl : wpr = .none := hch; rfl
        | cons y ys => obtain ⟨rfl, _⟩ := hch; rfl
      have htl : ∀ p ∈ [(w1.a, nodeObj wd (.int w1.k wkt) (.int w1.v wvt) wpr wpa wnx w1.l.ptr)], h.get? p.1 = some p.2 := by simp only [List.mem_singleton, forall_eq]; exact wg
      obtain ⟨g, rest, F, N, Sg, hne, kg, _, uns⟩ := focus MBh.st hLz nsm [(w1.a, nodeObj wd (.int w1.k wkt) (.int w1.v wvt) wpr wpa wnx w1.l.ptr)]
        htl (by simp only [List.mem_singleton, forall_eq]; exact cwn) (by simp only [List.mem_singleton, forall_eq]; exact h0n wz)
      have X := G.X.keeps Sg
      have T := G.T.keeps Sg
      simp only [List.cons_append, List.nil_append] at N
      have eb : ∀ h' m', Fr g L h' m' → News g L h' rest → h'.get? wd = some emptyDict := fun h' m' F' N' => uns h' m' F' N' wd _ wgd (fun e => nL (e ▸ wgd)) (by simpa using nDict wg wgd)
      clear hne kg
      dsimp only
      k_steps
      with_reducible rename Fr _ _ _ _ => F1
      with_reducible rename News _ _ _ _ => N1
      have hu1 := keepAll (uns _ _ F1 (newsTail N1)) N1 htl
      have Sx1 := stepOf (z := z) (l := []) nL hu1 (by simp)
      unfold Hold
      refine While_own (MI2 g0 z L H s.heap a k v nx pa pr l) (MJ2 g0 z L H s.heap a k v nx pa pr l) ws.length ?_ ?_ ?_
      · refine ⟨w1, ws, wpr, q, _, ⟨F1.ns, by rfl, by rfl, fun b o e => F1.keep b o (Sg b o e), hu1 _ _ MBh.hq qL (by simp), MBh.q0, MBh.ca.stepL MBh.ns Sx1 (by simp), MBh.stp.onto hL hu1 (by simp)⟩, by rfl, by rfl, wT.stepL MBh.ns Sx1 (by simp), hch.stepL MBh.ns Sx1 (by simp), ?_, hord, rfl⟩
        simpa [chI] using hperm
      · clear uns Sx1 F1 N1 hu1 eb X T Sg
        clear wT hperm hord hch hwpr rw1 wg wgd htl mnode nsm qL nL MBh
        rintro n h tk ⟨t, ws, pv, q, m, MBh, mnode, mprev, tT, hch, hperm, hord, hlen⟩
        have nL := ns_notEmpty MBh.ns MBh.mself
        have nsm := ns_at4 MBh.ns MBh.mself MBh.mlink mnode mprev
        have qL := ns_ne MBh.ns MBh.hq (fun es n => by intro e; cases e)
        have hpa := perm_addrs2 hperm
        cases ws with
        | nil =>
          obtain rfl : pv = .none := hch
          obtain ⟨g, rest, F, N, Sg, hne, kg, _, uns⟩ := focus MBh.st hLz nsm [(q, methodObj (.ref 184) (.ref H))]
            (by simp only [List.mem_singleton, forall_eq]; exact MBh.hq) (by simp only [List.mem_singleton, forall_eq]; exact qL) (by simp only [List.mem_singleton, forall_eq]; exact MBh.q0)
          have X := G.X.keeps Sg
          have T := G.T.keeps Sg
          simp only [List.cons_append, List.nil_append] at N
          clear hne kg
          with_reducible show wpAny _ _ _ _ _ _
          k_fold
          k_steps
          exact ⟨t, q, m, MBh, mnode, tT, by simpa [chI] using hperm, fun lo hlo => hord lo hlo t (.head _)⟩
        | cons w2 ws =>
          obtain ⟨rfl, wnx, wpa, wpr, ⟨cw, rw2⟩, hch⟩ := hch
          have cwn := ns_notNode MBh.ns cw
          have wT : TopC z h w2 := ⟨_, _, _, cw, rw2⟩
          obtain ⟨wd, wkt, wvt, wz, wdz, wg, wgd⟩ := cw
          have hwpr : handedIn wpr = true := by
            cases ws with
            | nil => obtain rfl : wpr = .none := hch; rfl
            | cons y ys => obtain ⟨rfl, _⟩ := hch; rfl
          have htl : ∀ p ∈ [(q, methodObj (.ref 184) (.ref H)), (w2.a, nodeObj wd (.int w2.k wkt) (.int w2.v wvt) wpr wpa wnx w2.l.ptr)], h.get? p.1 = some p.2 := all2 MBh.hq wg
          obtain ⟨g, rest, F, N, Sg, hne, kg, _, uns⟩ := focus MBh.st hLz nsm [(q, methodObj (.ref 184) (.ref H)), (w2.a, nodeObj wd (.int w2.k wkt) (.int w2.v wvt) wpr wpa wnx w2.l.ptr)]
            htl (all2 qL cwn) (all2 MBh.q0 (h0n wz))
          have X := G.X.keeps Sg
          have T := G.T.keeps Sg
          simp only [List.cons_append, List.nil_append] at N
          have eb : ∀ h' m', Fr g L h' m' → News g L h' rest → h'.get? wd = some emptyDict := fun h' m' F' N' => uns h' m' F' N' wd _ wgd (fun e => nL (e ▸ wgd)) (by simpa using ⟨methNe MBh.hq wgd, nDict wg wgd⟩)
          clear hne kg
          with_reducible show wpAny _ _ _ _ _ _
          k_fold
          k_steps
          unfold Hold
          with_reducible rename Fr _ _ _ _ => F1
          with_reducible rename News _ _ _ _ => N1
          have hu1 := keepAll (uns _ _ F1 (newsTail (newsTail N1))) N1 htl
          have Sx1 := stepOf (z := z) (l := []) nL hu1 (by simp)
          have wT1 := wT.stepL MBh.ns Sx1 (by simp)
          have tT1 := tT.stepL MBh.ns Sx1 (by simp)
          refine call_meth N1 (.head _) ?_
          have hX : (w2.addrs ++ t.addrs ++ chA ws).Perm (t.addrs ++ chA (w2 :: ws)) := by
            simp only [chA, List.flatMap_cons]
            rw [← List.append_assoc]
            exact List.Perm.append_right _ List.perm_append_comm
          have hpa2 := hX.trans hpa
          have nd2 := perm_nodup hpa2 nd
          generalize hXX : w2.addrs ++ t.addrs = X2 at *
          have ndu : (w2.addrs ++ t.addrs).Nodup := by
            rw [hXX]
            exact (List.nodup_append.mp (List.nodup_cons.mp nd2).2).1
          refine link_spec (t := w2) (u := t) G ?kS ?kd ?kb ?kc ndu ?kR
          case kS => exact fun b o e => F1.keep b o (Sg b o e)
          case kd => show dp + 1 + 10 < recursionLimit; first | exact room_le (d := dp) (b := 11) hdp (by decide) | omega
          case kb => exact wT1
          case kc => exact tT1
          case kR =>
          intro h2 tk2 St2 TC2
          have perm2 := linkT_items w2 t
          have ord2 := linkT_ord (t := w2) (u := t)
          generalize linkT w2 t = u at *
          rw [hXX] at St2
          dsimp only at St2
          have X2le : ∀ x ∈ X2, z ≤ x := by
            rw [← hXX]; exact fun x hx => (List.mem_append.mp hx).elim (wT1.le x) (tT1.le x)
          have nLX : L ∉ X2 := by
            rw [← hXX]; exact fun hx => (List.mem_append.mp hx).elim (topC_L wT1 F1.ns) (topC_L tT1 F1.ns)
          have cq1 := news_get N1 (.head _)
          have nqX : q ∉ X2 := by
            rw [← hXX]; exact fun hx => (List.mem_append.mp hx).elim (topC_ne wT1 cq1 (by intro e; cases e)) (topC_ne tT1 cq1 (by intro e; cases e))
          simp only [List.nodup_cons, List.mem_append, not_or, List.nodup_append] at nd2
          obtain ⟨⟨na1, na2⟩, _, _, nwX⟩ := nd2
          have S2 := staysStep (fun b o e => F1.keep b o (Sg b o e)) St2 G.sz X2le
          have ns2 := ns_step F1.ns St2 nLX
          have ca2 := (MBh.ca.stepL MBh.ns Sx1 (by simp)).step St2 na1
          have ch2 := (hch.stepL MBh.ns Sx1 (by simp)).step St2 (fun x hx hx2 => nwX x hx2 x hx rfl)
          have cq2 := St2.keep _ _ cq1 nqX
          have stp1 := MBh.stp.onto hL hu1 (by simp)
          have stp2 : Step z (a :: l.addrs) s.heap h2 := ⟨fun x o e n => St2.keep x o (stp1.keep x o e n) fun hx => n (.tail _ (hpa2.mem_iff.mp (List.mem_append_left _ hx))), nD⟩
          have nL2 := ns_notEmpty ns2 (x := Str.ofString "self") (by rfl)
          have qL2 := ns_ne ns2 cq2 (fun es n => by intro e; cases e)
          clear uns Sx1 F1 N1 hu1 wT1 tT1 eb X T St2
          obtain ⟨g, rest, F, N, Sg, hne, kg, _, uns⟩ := focus S2 hLz ns2 [(q, methodObj (.ref 184) (.ref H))]
            (by simp only [List.mem_singleton, forall_eq]; exact cq2) (by simp only [List.mem_singleton, forall_eq]; exact qL2) (by simp only [List.mem_singleton, forall_eq]; exact MBh.q0)
          have X := G.X.keeps Sg
          have T := G.T.keeps Sg
          simp only [List.cons_append, List.nil_append] at N
          clear hne kg
          dsimp only
          with_reducible show wpAny _ _ _ _ _ _
          k_fold
          k_steps
          with_reducible rename Fr _ _ _ _ => F1
          with_reducible rename News _ _ _ _ => N1
          have hu := keepAll (tl := [(q, methodObj (.ref 184) (.ref H))]) (uns _ _ F1 (newsTail N1)) N1 (by simp only [List.mem_singleton, forall_eq]; exact cq2)
          have Sx := stepOf (z := z) (l := []) nL2 hu (by simp)
          refine TurnEnd.next_ (tk' := _) ws.length ?_ ⟨u, ws, wpr, q, _, ⟨F1.ns, by rfl, by rfl, fun b o e => F1.keep b o (Sg b o e), hu _ _ cq2 qL2 (by simp), MBh.q0, ca2.stepL ns2 Sx (by simp), stp2.onto hL hu (by simp)⟩,
            by rfl, by rfl, TC2.stepL ns2 Sx (by simp), ch2.stepL ns2 Sx (by simp), ?_, ?_, rfl⟩
          · rw [← hlen]; simp
          · refine List.Perm.trans ?_ hperm
            simp only [chI, List.flatMap_cons]
            rw [← List.append_assoc]
            exact List.Perm.append_right _ (perm2.trans List.perm_append_comm)
          · intro lo hlo y hy
            have o1 := hord lo hlo
            rcases List.mem_cons.mp hy with rfl | hy
            · exact ord2 (o1 _ (.tail _ (.head _))) (o1 _ (.head _))
            · exact o1 y (.tail _ (.tail _ hy))
      · clear uns Sx1 F1 N1 hu1 eb X T Sg
        clear wT hperm hord hch hwpr rw1 wg wgd htl mnode nsm qL nL MBh
        rintro h tk ⟨t, q, m, MBh, mnode, tT, hperm, hord⟩
        have nL := ns_notEmpty MBh.ns MBh.mself
        have nsm := ns_at2 MBh.ns MBh.mself mnode
        obtain ⟨tnx, tpa, tpr, ct, rt⟩ := tT
        have ctn := ns_notNode MBh.ns ct
        obtain ⟨td, tkt, tvt, tz, tdz, tg, tgd⟩ := ct
        have hpa : t.addrs.Perm l.addrs := by
          rw [Tp.addrs_items, B.addrs_items]; exact hperm.map _
        have hta : t.a ∈ l.addrs := hpa.mem_iff.mp (.head _)
        have htn : t.a ∉ t.l.addrs := (List.nodup_cons.mp (hpa.nodup_iff.mpr (List.nodup_cons.mp nd).2)).1
        have hat : a ≠ t.a := fun e => (List.nodup_cons.mp nd).1 (e ▸ hta)
        obtain ⟨g, rest, F, N, Sg, hne, kg, _, uns⟩ := focus MBh.st hLz nsm [(t.a, nodeObj td (.int t.k tkt) (.int t.v tvt) tpr tpa tnx t.l.ptr)]
          (by simp only [List.mem_singleton, forall_eq]; exact tg) (by simp only [List.mem_singleton, forall_eq]; exact ctn) (by simp only [List.mem_singleton, forall_eq]; exact h0n tz)
        have X := G.X.keeps Sg
        have T := G.T.keeps Sg
        have hr := hne _ (.head _)
        simp only [List.cons_append, List.nil_append] at N
        dsimp only at hr
        have eb : ∀ h' m', Fr g L h' m' → News g L h' rest → h'.get? td = some emptyDict := fun h' m' F' N' => uns h' m' F' N' td _ tgd (fun e => nL (e ▸ tgd)) (by simpa using nDict tg tgd)
        clear hne kg
        dsimp only
        k_steps
        with_reducible rename Fr _ _ _ _ => F1
        with_reducible rename News _ _ _ _ => N1
        have hu := uns _ _ F1 (newsTail N1)
        have hu' : ∀ x o, h.get? x = some o → x ≠ L → x ≠ t.a → _ := fun x o e n1 n2 => hu x o e n1 (by simpa using n2)
        have Sx := stepOf (z := z) (l := [t.a]) nL (fun x o e e1 e2 => hu x o e e1 (by simpa using e2)) (by simp only [List.mem_singleton, forall_eq]; rw [tg]; exact node_ne_empty)
        refine hRs _ _ t (MBh.stp.onto hL hu (by simp only [List.map_cons, List.map_nil, List.mem_singleton, forall_eq]; exact .tail _ hta)) (MBh.ca.stepL MBh.ns Sx (by simp only [List.mem_singleton]; exact hat)) ⟨.none, .none, .none, ⟨td, tkt, tvt, tz, tdz, news_get N1 (.head _), hu' _ _ tgd (fun e => nL (e ▸ tgd)) (nDict tg tgd)⟩, rt.stepL MBh.ns Sx fun x hx => ?_⟩ hperm hord
        simp only [List.mem_singleton]; rintro rfl; exact htn hx
end
end
end
section
open PySem PySem.W PyProof.Rows PySem.Calls
section

inductive Loc where
  | top : Loc
  | sub (c : Zp) (r : B) : Loc
namespace Loc
noncomputable def fill : Loc → Nat → Int → Int → B → Tp
  | top, a, k, v, l => ⟨a, k, v, l⟩
  | sub c r, a, k, v, l => c.fill (.node a k v l r)
noncomputable def addrs : Loc → List Nat
  | top => []
  | sub c r => r.addrs ++ c.addrs
noncomputable def items : Loc → List (Nat × Int × Int)
  | top => []
  | sub c r => r.items ++ c.items
def ordL : Loc → Int → Prop
  | top, _ => True
  | sub c r, v => c.ordZ ∧ c.pval ≤ v ∧ r.ge c.pval
theorem addrs_items : ∀ lo : Loc, lo.addrs = lo.items.map (·.1)
  | top => rfl
  | sub c r => by simp [addrs, items, B.addrs_items, Zp.addrs_items]
theorem fill_items : ∀ (lo : Loc) (a : Nat) (k v : Int) (l : B), (lo.fill a k v l).items.Perm ((a, k, v) :: (l.items ++ lo.items))
  | top, a, k, v, l => by simp [fill, items, Tp.items]
  | sub c r, a, k, v, l => by
    refine (Zp.fill_items c _).trans ?_
    simp [items, B.items]
theorem fill_addrs (lo : Loc) (a : Nat) (k v : Int) (l : B) : (lo.fill a k v l).addrs.Perm (a :: (l.addrs ++ lo.addrs)) := by
  have := (fill_items lo a k v l).map (·.1)
  rw [← Tp.addrs_items] at this
  simpa [B.addrs_items, addrs_items] using this
theorem fill_ord : ∀ {lo : Loc} {a : Nat} {k v : Int} {l : B}, (lo.fill a k v l).ord ↔ l.ge v ∧ lo.ordL v
  | top, a, k, v, l => by simp [fill, ordL, Tp.ord]
  | sub c r, a, k, v, l => by
    rw [fill, Zp.fill_ord]
    simp only [B.ge, ordL]
    constructor
    · rintro ⟨h1, h2, h3, h4⟩; exact ⟨h3, h1, h2, h4⟩
    · rintro ⟨h3, h1, h2, h4⟩; exact ⟨h1, h2, h3, h4⟩
theorem ordL_up {lo : Loc} {v v' : Int} (h : lo.ordL v) (hv : v ≤ v') : lo.ordL v' := by
  cases lo with
  | top => trivial
  | sub c r => exact ⟨h.1, Int.le_trans h.2.1 hv, h.2.2⟩
theorem find {a : Nat} {t : Tp} (h : a ∈ t.addrs) : ∃ (lo : Loc) (k v : Int) (l : B), t = lo.fill a k v l := by
  by_cases e : a = t.a
  · subst e; exact ⟨.top, t.k, t.v, t.l, rfl⟩
  · obtain ⟨c, k, v, l, r, e'⟩ := Zp.find_top h e
    exact ⟨.sub c r, k, v, l, e'⟩
end Loc

section
variable {z : Nat} {h h' : Heap} {F : List Nat}
def RepL (z : Nat) (h : Heap) : Loc → Nat → Value → Value → Value → Prop
  | .top, _, _, _, _ => True
  | .sub c r, a, nx, pa, pr => RepZ z h c (.ref a) ∧ Rep z h (.ref c.par) (.ref a) r ∧ nx = r.ptr ∧ pa = .ref c.par ∧ pr = c.prev
theorem topC_loc {lo : Loc} {a : Nat} {k v : Int} {l : B} : TopC z h (lo.fill a k v l) ↔ ∃ nx pa pr, Cell z h a k v l.ptr nx pa pr ∧ Rep z h (.ref a) .none l ∧ RepL z h lo a nx pa pr := by
  cases lo with
  | top =>
    constructor
    · rintro ⟨n, p, q, c, r⟩; exact ⟨n, p, q, c, r, trivial⟩
    · rintro ⟨n, p, q, c, r, _⟩; exact ⟨n, p, q, c, r⟩
  | sub c r =>
    rw [Loc.fill, topC_fill]
    simp only [Rep, RepL, B.ptr]
    constructor
    · rintro ⟨h1, h2, h3, h4⟩; exact ⟨_, _, _, h2, h3, h1, h4, rfl, rfl, rfl⟩
    · rintro ⟨_, _, _, h2, h3, h1, h4, rfl, rfl, rfl⟩; exact ⟨h1, h2, h3, h4⟩
theorem RepL.step (x : Step z F h h') {lo : Loc} {a : Nat} {nx pa pr : Value} (r : RepL z h lo a nx pa pr) (n : ∀ b ∈ lo.addrs, b ∉ F) : RepL z h' lo a nx pa pr := by
  cases lo with
  | top => trivial
  | sub c q =>
    simp only [Loc.addrs, List.mem_append] at n
    obtain ⟨h1, h2, h3⟩ := r
    exact ⟨h1.step x fun b hb => n b (.inr hb), h2.step x fun b hb => n b (.inl hb), h3⟩
theorem RepL.cell {lo : Loc} {a : Nat} {nx pa pr : Value} (r : RepL z h lo a nx pa pr) : ∀ b ∈ lo.addrs, ∃ k v l n p q, Cell z h b k v l n p q := by
  cases lo with
  | top => intro b hb; simp [Loc.addrs] at hb
  | sub c q =>
    intro b hb
    simp only [Loc.addrs, List.mem_append] at hb
    exact hb.elim (r.2.1.cell b) (r.1.cell b)
theorem RepZ.par : ∀ {c : Zp} {q : Value}, RepZ z h c q → c.par ∈ c.addrs ∧ ∃ k l n p r, Cell z h c.par k c.pval l n p r
  | .root p k v, q, c => by obtain ⟨nx, pa, pr, c⟩ := c; exact ⟨.head _, _, _, _, _, _, c⟩
  | .left b k v r up, q, c => ⟨.head _, _, _, _, _, _, c.1⟩
  | .next b k v l up, q, c => by
    obtain ⟨h1, h2⟩ := c.2.2.par
    refine ⟨?_, h2⟩
    simp only [Zp.addrs, Zp.par, List.mem_cons, List.mem_append]
    exact .inr (.inr h1)
end
section
variable {z : Nat} {h h' : Heap} {F : List Nat} {L : Nat} {m : Str → Option Value}
theorem RepL.stepL (ns : h.Ns L m) (x : Step z (L :: F) h h') {lo : Loc} {a : Nat} {nx pa pr : Value} (r : RepL z h lo a nx pa pr) (n : ∀ b ∈ lo.addrs, b ∉ F) : RepL z h' lo a nx pa pr :=
  r.step x fun b hb => by
    obtain ⟨_, _, _, _, _, _, c⟩ := r.cell b hb
    simp only [List.mem_cons, not_or]; exact ⟨ns_notNode ns c, n b hb⟩
end

noncomputable def tptr : Option Tp → Value
  | none => .none
  | some t => .ref t.a
noncomputable def titems : Option Tp → List (Nat × Int × Int)
  | none => []
  | some t => t.items
noncomputable def taddrs : Option Tp → List Nat
  | none => []
  | some t => t.addrs
def TreeAt (z : Nat) (h : Heap) : Option Tp → Prop
  | none => True
  | some t => TopC z h t
def tord : Option Tp → Prop
  | none => True
  | some t => t.ord
theorem taddrs_items (t : Option Tp) : taddrs t = (titems t).map (·.1) := by cases t <;> simp [taddrs, titems, Tp.addrs_items]

structure HS (prog : Program) (w : World) (z : Nat) (h : Heap) (H I D : Nat) (t : Option Tp) (kvs : List (Int × Value)) : Prop where
  hH : h.get? H = some (instObj 201 I)
  hI : ∃ q1 q2 u1 u2, h.get? I = some (hdict q1 q2 u1 u2 D (tptr t))
  hD : ∃ oD, h.get? D = some oD ∧ oD.IsDictOf (intKind prog w) kvs
  lo : (D == sysModules) = false
  ID : I ≠ D
  HD : H ≠ D
  zH : H < z
  zI : I < z
  zD : D < z
  tr : TreeAt z h t
  ord : tord t
  nd : (taddrs t).Nodup
  keys : kvs.Perm ((titems t).map fun p => (p.2.1, Value.ref p.1))
  small : kvs.length ≤ 100

noncomputable def Zp.ra : Zp → Nat
  | .root p _ _ => p
  | .left _ _ _ _ up => up.ra
  | .next _ _ _ _ up => up.ra
theorem Zp.fill_a : ∀ (c : Zp) (x : B), (c.fill x).a = c.ra
  | .root p _ _, x => rfl
  | .left b k v r up, x => up.fill_a _
  | .next b k v l up, x => up.fill_a _
noncomputable def Loc.ra : Loc → Nat → Nat
  | .top, a => a
  | .sub c _, _ => c.ra
theorem Loc.fill_a (lc : Loc) (a : Nat) (k v : Int) (l : B) : (lc.fill a k v l).a = lc.ra a := by
  cases lc with
  | top => rfl
  | sub c r => exact c.fill_a _

theorem HS.tree {prog : Program} {w : World} {z : Nat} {h h' : Heap} {H I D : Nat} {t t' : Option Tp} {kvs : List (Int × Value)} {F : List Nat} (hs : HS prog w z h H I D t kvs) (St : Step z F h h') (hF : ∀ b ∈ F, b = I ∨ z ≤ b)
    (hI' : ∃ q1 q2 u1 u2, h'.get? I = some (hdict q1 q2 u1 u2 D (tptr t'))) (tr' : TreeAt z h' t') (ord' : tord t')
    (perm : ∃ x y v v' m, (titems t).Perm ((x, y, v) :: m) ∧ (titems t').Perm ((x, y, v') :: m)) : HS prog w z h' H I D t' kvs := by
  have hHI : H ≠ I := fun e => by
    obtain ⟨q1, q2, u1, u2, hI⟩ := hs.hI
    rw [← e, hs.hH] at hI; cases hI
  have nF : ∀ {b : Nat}, b < z → b ≠ I → b ∉ F := fun hb hn hf => (hF _ hf).elim hn fun q => Nat.lt_irrefl _ (Nat.lt_of_lt_of_le hb q)
  obtain ⟨x, y, v, v', m, p1, p2⟩ := perm
  obtain ⟨oD, hD, hDo⟩ := hs.hD
  refine ⟨St.keep _ _ hs.hH (nF hs.zH hHI), hI', ⟨oD, St.keep _ _ hD (nF hs.zD (Ne.symm hs.ID)), hDo⟩, hs.lo, hs.ID, hs.HD, hs.zH, hs.zI, hs.zD, tr', ord', ?_, ?_, hs.small⟩
  · have q1 := (p1.map (·.1)).nodup_iff.mp (by rw [← taddrs_items]; exact hs.nd)
    rw [taddrs_items]
    exact (p2.map (·.1)).nodup_iff.mpr q1
  · refine hs.keys.trans ((p1.map _).trans ?_)
    exact (p2.map (fun p : Nat × Int × Int => (p.2.1, Value.ref p.1))).symm

theorem keepSet {h h' : Heap} {L : Nat} {tl : List Nat} {P : Nat → Prop} (hu : ∀ b o, h.get? b = some o → b ≠ L → b ∉ tl → h'.get? b = some o) (hp : ∀ b ∈ tl, P b ∨ ∃ o, h.get? b = some o ∧ h'.get? b = some o) :
    ∀ b o, h.get? b = some o → b ≠ L → ¬ P b → h'.get? b = some o := fun b o e n np => by
  by_cases hb : b ∈ tl
  · rcases hp b hb with q | ⟨o', e1, e2⟩
    · exact absurd q np
    · rw [e] at e1; cases e1; exact e2
  · exact hu b o e n hb

section
variable {w : World} {dp un : Nat} {gd : Option (List Code)} {outer : List Env} {mean : ExcName → Option Value} {mg mb : Str → Option Value} {g0 : Heap} {z : Nat} {R : Result → Shared → Prop} {s : Shared} {self : Value}
theorem link_spec2 {t u : Tp} {ta ua : Nat} (G : Gd w mean mg mb g0 z) (hta : ta = t.a) (hua : ua = u.a) (S₀ : g0.StaysIn s.heap) (hdp : dp + 10 < recursionLimit)
    (ht : TopC z s.heap t) (hu : TopC z s.heap u) (nd : (t.addrs ++ u.addrs).Nodup)
    (hR : ∀ h' tk, Step z (t.addrs ++ u.addrs) s.heap h' → TopC z h' (linkT t u) → R (.ok (.ret (.ref (linkT t u).a))) { s with heap := h', toks := tk }) :
    codeAny (model Challenge.rw_bf0021_01.row.prog w) (Ar dp un gd outer) (.call (.ref 184) ⟨[self, .ref ta, .ref ua], []⟩) R s := by
  subst hta hua
  exact link_spec G S₀ hdp ht hu nd hR
end
end
end
section
open PySem PySem.W PyProof.Rows PySem.Calls
section
open PySem PySem.W PyProof.Rows PySem.Calls
section
open PySem PySem.W PyProof.Rows PySem.Calls
section
example : True := by
  w_top off
  k_with_none
  k_with "eval Name" => (k_here; k_dflt (refine' nameX_L ?F ?v ?_ ?a ?b; (case F => k_asm); (case a => exact Eq.refl _); (case b => exact Eq.refl (some NameKind.local)); (case v => exact Eq.refl (some _)); k_whole))
  k_with "k_ne" => (refine neN ?_; (try dsimp only); first | assumption | (apply Ne.symm; assumption))
  k_with "k_inst" => ((refine' instR ?F ?N ?h1 ?hd ?hs; (case F => k_asm); (case N => k_asm); (case h1 => k_mem); (case hd => assumption); (case hs => (intro p9 h9; repeat (first | exact h9 | refine List.Mem.tail _ ?_)))))
  k_with "k_all" => (assumption)
  k_with "k_handed" => (assumption)
  k_with "call ref" => (with_reducible show wpAny _ _ (PySem.call (Value.ref 184) _ _) _ _ _; refine Hold.mk ?_)
  k_with "call ref" => (with_reducible show wpAny _ _ (PySem.call (Value.ref 191) _ _) _ _ _; refine Hold.mk ?_)
  k_with "call ref" => (with_reducible show wpAny _ _ (PySem.call (Value.ref 198) _ _) _ _ _; refine Hold.mk ?_)
  k_with "getMethod ref" => (k_here; k_dflt (refine' kdg_method (knd := PySem.intKind _ _) ?N ?hp ?hd ?_; (case N => k_asm); (case hp => k_mem); (case hd => assumption); k_whole))
  k_with "call builtin:dict.get" => (k_here; k_dflt (refine' kdg_get1 (knd := PySem.intKind _ _) ?N ?hp ?hd ?lo (intKind_is _ _ _ _) _ ?hl ?_; (case N => k_asm); (case hp => k_mem); (case hd => assumption); (case lo => assumption); (case hl => assumption); k_whole); (try dsimp only [Option.getD]))
  k_with "k_room" => ((try simp only [depth_under_make, depth_under_kw, depth_in1, depth_deeper, depth_caller, depth_mark]); (try dsimp only); first | exact room_le (b := 1) (by assumption) (by decide) | exact room_le (b := 2) (by assumption) (by decide) | exact room_le (b := 3) (by assumption) (by decide) | exact room_le (b := 4) (by assumption) (by decide))
  trivial
set_option maxRecDepth 100000
set_option maxHeartbeats 8000000

section
variable {w : World} {dp un : Nat} {gd : Option (List Code)} {outer : List Env} {mean : ExcName → Option Value} {mg mb : Str → Option Value} {g0 : Heap} {z : Nat} {R : Result → Shared → Prop} {s : Shared} {self : Value}

theorem insert_same {H I D a : Nat} {lc : Loc} {k v v0 : Int} {kt vt : Tok} {l : B} {kvs : List (Int × Value)} {up : Bool} (G : Gd w mean mg mb g0 z) (S₀ : g0.StaysIn s.heap) (hdp : dp + 40 < recursionLimit)
    (hsz : g0.objs.size ≤ s.heap.objs.size) (g0H : g0.get? H = none) (g0I : g0.get? I = none) (g0D : g0.get? D = none)
    (hs : HS Challenge.rw_bf0021_01.row.prog w z s.heap H I D (some (lc.fill a k v0 l)) kvs)
    (hk : valueAt kvs k = some (.ref a)) (hv : ¬ v < v0) (hup : up = false ∨ ¬ v0 < v)
    (hR : ∀ h' tk, Step z [] s.heap h' → R (.ok (.ret (.bool false))) { s with heap := h', toks := tk }) :
    codeAny (model Challenge.rw_bf0021_01.row.prog w) (Ar dp un gd outer) (.call (.ref 177) ⟨[.ref H, .int k kt, .int v vt, .bool up], []⟩) R s := by
  have XS := G.X.keeps S₀
  have TS := G.T.keeps S₀
  k_dflt (refine' enterF XS TS.nolimit ?k1 ?k2 ?k3 ?k4 ?k5 ?k6 ?c1 ?c2 ?c3 ?c4;
          (case k1 => k_is);
          (case k2 => k_is);
          (case k3 => simp only []; omega);
          (case k4 => first | exact BindsTo.of_eq rfl | exact binds_K (by k_in) rfl (by k_is) rfl rfl rfl);
          (case k5 => exact locs rfl);
          (case c1 => exact rfl);
          (case c2 => exact rfl);
          (case c3 => exact rfl);
          (case c4 => decide))
  intro L h₁ tk₁ ns₁ hL ks₁
  have hLz : g0.objs.size ≤ L := Nat.le_trans hsz hL
  have lt : ∀ {b o}, s.heap.get? b = some o → b < L := fun e => Nat.lt_of_lt_of_le (Heap.lt_size e) hL
  have h0n : ∀ {b : Nat}, z ≤ b → g0.get? b = none := fun {b} hb => by
    cases e : g0.get? b with
    | none => rfl
    | some o => exact absurd (Nat.lt_of_lt_of_le (Heap.lt_size e) G.sz) (Nat.not_lt.mpr hb)
  obtain ⟨hH, ⟨q1, q2, u1, u2, hI⟩, ⟨oD, hD, hDo⟩, lo, hID, hHD, zH, zI, zD, tr, ord, nd, keys, small⟩ := hs
  have hHI : H ≠ I := fun e => by rw [← e, hH] at hI; cases hI
  obtain ⟨nx, pa, pr, ca, rl, rlo⟩ := topC_loc.mp (show TopC z s.heap (lc.fill a k v0 l) from tr)
  obtain ⟨ad, akt, avt, az, adz, ag, agd⟩ := ca
  have htl : ∀ p ∈ [(H, instObj 201 I), (I, hdict q1 q2 u1 u2 D (.ref (lc.fill a k v0 l).a)), (D, oD), (a, nodeObj ad (.int k akt) (.int v0 avt) pr pa nx l.ptr)], h₁.get? p.1 = some p.2 :=
    all4 (ks₁ _ _ hH) (ks₁ _ _ hI) (ks₁ _ _ hD) (ks₁ _ _ ag)
  obtain ⟨g, rest, F, N, Sg, hne, kg, _, uns⟩ := focus (fun b o e => ks₁ b o (S₀ b o e)) hLz ns₁ [(H, instObj 201 I), (I, hdict q1 q2 u1 u2 D (.ref (lc.fill a k v0 l).a)), (D, oD), (a, nodeObj ad (.int k akt) (.int v0 avt) pr pa nx l.ptr)]
    htl (all4 (Nat.ne_of_lt (lt hH)) (Nat.ne_of_lt (lt hI)) (Nat.ne_of_lt (lt hD)) (Nat.ne_of_lt (lt ag))) (all4 g0H g0I g0D (h0n az))
  have X := G.X.keeps Sg
  have T := G.T.keeps Sg
  simp only [List.cons_append, List.nil_append] at N
  have nDz : ∀ {x : Nat}, x < z → ad ≠ x := fun hx e => Nat.lt_irrefl _ (Nat.lt_of_lt_of_le hx (e ▸ adz))
  have eb : ∀ h' m', Fr g L h' m' → News g L h' rest → h'.get? ad = some emptyDict := fun h' m' F' N' => uns h' m' F' N' ad _ (ks₁ _ _ agd) (Nat.ne_of_lt (lt agd)) (by simpa using ⟨nDz zH, nDz zI, nDz zD, nDict ag agd⟩)
  clear hne kg
  (try dsimp only)
  cases up with
  | false =>
    clear hup
    with_reducible show wpAny _ _ _ _ _ _
    k_fold
    k_steps
    with_reducible rename Fr _ _ _ _ => F1
    with_reducible rename News _ _ _ _ => N1
    have hu1 := keepAll (uns _ _ F1 (newsTail (newsTail (newsTail (newsTail N1))))) N1 htl
    exact hR _ _ ⟨fun b o e _ => hu1 b o (ks₁ _ _ e) (Nat.ne_of_lt (lt e)) (by simp), by simp⟩
  | true =>
    have hup' : ¬ v0 < v := hup.resolve_left (by simp)
    with_reducible show wpAny _ _ _ _ _ _
    k_fold
    k_steps
    with_reducible rename Fr _ _ _ _ => F1
    with_reducible rename News _ _ _ _ => N1
    have hu1 := keepAll (uns _ _ F1 (newsTail (newsTail (newsTail (newsTail N1))))) N1 htl
    exact hR _ _ ⟨fun b o e _ => hu1 b o (ks₁ _ _ e) (Nat.ne_of_lt (lt e)) (by simp), by simp⟩
end
end
end
section
open PySem PySem.W PyProof.Rows PySem.Calls
section
example : True := by
  w_top off
  k_with_none
  k_with "eval Name" => (k_here; k_dflt (refine' nameX_L ?F ?v ?_ ?a ?b; (case F => k_asm); (case a => exact Eq.refl _); (case b => exact Eq.refl (some NameKind.local)); (case v => exact Eq.refl (some _)); k_whole))
  k_with "k_ne" => (refine neN ?_; (try dsimp only); first | assumption | (apply Ne.symm; assumption))
  k_with "k_inst" => ((refine' instR ?F ?N ?h1 ?hd ?hs; (case F => k_asm); (case N => k_asm); (case h1 => k_mem); (case hd => assumption); (case hs => (intro p9 h9; repeat (first | exact h9 | refine List.Mem.tail _ ?_)))))
  k_with "k_all" => (assumption)
  k_with "k_handed" => (assumption)
  k_with "call ref" => (with_reducible show wpAny _ _ (PySem.call (Value.ref 184) _ _) _ _ _; refine Hold.mk ?_)
  k_with "call ref" => (with_reducible show wpAny _ _ (PySem.call (Value.ref 191) _ _) _ _ _; refine Hold.mk ?_)
  k_with "call ref" => (with_reducible show wpAny _ _ (PySem.call (Value.ref 198) _ _) _ _ _; refine Hold.mk ?_)
  k_with "getMethod ref" => (k_here; k_dflt (refine' kdg_method (knd := PySem.intKind _ _) ?N ?hp ?hd ?_; (case N => k_asm); (case hp => k_mem); (case hd => assumption); k_whole))
  k_with "call builtin:dict.get" => (k_here; k_dflt (refine' kdg_get1 (knd := PySem.intKind _ _) ?N ?hp ?hd ?lo (intKind_is _ _ _ _) _ ?hl ?_; (case N => k_asm); (case hp => k_mem); (case hd => assumption); (case lo => assumption); (case hl => assumption); k_whole); (try dsimp only [Option.getD]))
  k_with "k_room" => ((try simp only [depth_under_make, depth_under_kw, depth_in1, depth_deeper, depth_caller, depth_mark]); (try dsimp only); first | exact room_le (b := 1) (by assumption) (by decide) | exact room_le (b := 2) (by assumption) (by decide) | exact room_le (b := 3) (by assumption) (by decide) | exact room_le (b := 4) (by assumption) (by decide))
  trivial
set_option maxRecDepth 100000
set_option maxHeartbeats 8000000

section
variable {w : World} {dp un : Nat} {gd : Option (List Code)} {outer : List Env} {mean : ExcName → Option Value} {mg mb : Str → Option Value} {g0 : Heap} {z : Nat} {R : Result → Shared → Prop} {s : Shared} {self : Value}


theorem insert_up {H I D a : Nat} {lc : Loc} {k v v0 : Int} {kt vt : Tok} {l : B} {kvs : List (Int × Value)} (G : Gd w mean mg mb g0 z) (S₀ : g0.StaysIn s.heap) (hdp : dp + 40 < recursionLimit)
    (hsz : g0.objs.size ≤ s.heap.objs.size) (g0H : g0.get? H = none) (g0I : g0.get? I = none) (g0D : g0.get? D = none)
    (hs : HS Challenge.rw_bf0021_01.row.prog w z s.heap H I D (some (lc.fill a k v0 l)) kvs)
    (hk : valueAt kvs k = some (.ref a)) (hv : ¬ v < v0) (hup : v0 < v)
    (hR : ∀ h' tk t', Step z (I :: (lc.fill a k v0 l).addrs) s.heap h' → HS Challenge.rw_bf0021_01.row.prog w z h' H I D (some t') kvs → t'.items.Perm ((a, k, v) :: (l.items ++ lc.items)) → R (.ok (.ret (.bool false))) { s with heap := h', toks := tk }) :
    codeAny (model Challenge.rw_bf0021_01.row.prog w) (Ar dp un gd outer) (.call (.ref 177) ⟨[.ref H, .int k kt, .int v vt, .bool true], []⟩) R s := by
  have XS := G.X.keeps S₀
  have TS := G.T.keeps S₀
  k_dflt (refine' enterF XS TS.nolimit ?k1 ?k2 ?k3 ?k4 ?k5 ?k6 ?c1 ?c2 ?c3 ?c4;
          (case k1 => k_is);
          (case k2 => k_is);
          (case k3 => simp only []; omega);
          (case k4 => first | exact BindsTo.of_eq rfl | exact binds_K (by k_in) rfl (by k_is) rfl rfl rfl);
          (case k5 => exact locs rfl);
          (case c1 => exact rfl);
          (case c2 => exact rfl);
          (case c3 => exact rfl);
          (case c4 => decide))
  intro L h₁ tk₁ ns₁ hL ks₁
  have hLz : g0.objs.size ≤ L := Nat.le_trans hsz hL
  have lt : ∀ {b o}, s.heap.get? b = some o → b < L := fun e => Nat.lt_of_lt_of_le (Heap.lt_size e) hL
  have h0n : ∀ {b : Nat}, z ≤ b → g0.get? b = none := fun {b} hb => by
    cases e : g0.get? b with
    | none => rfl
    | some o => exact absurd (Nat.lt_of_lt_of_le (Heap.lt_size e) G.sz) (Nat.not_lt.mpr hb)
  have hs0 := hs
  obtain ⟨hH, ⟨q1, q2, u1, u2, hI⟩, ⟨oD, hD, hDo⟩, lo, hID, hHD, zH, zI, zD, tr, ord, nd, keys, small⟩ := hs
  have hHI : H ≠ I := fun e => by rw [← e, hH] at hI; cases hI
  have trD : ∀ b ∈ (lc.fill a k v0 l).addrs, z ≤ b → s.heap.get? b ≠ some emptyDict := TopC.notDict tr
  have trZ : ∀ b ∈ (lc.fill a k v0 l).addrs, z ≤ b := TopC.le tr
  have onlyF : ∀ b ∈ I :: (lc.fill a k v0 l).addrs, z ≤ b → s.heap.get? b ≠ some emptyDict := fun b hb hz => by
    rcases List.mem_cons.mp hb with rfl | hb
    · exact absurd hz (Nat.not_le.mpr zI)
    · exact trD b hb hz
  obtain ⟨nx, pa, pr, ca, rl, rlo⟩ := topC_loc.mp (show TopC z s.heap (lc.fill a k v0 l) from tr)
  have pAd := lc.fill_addrs a k v0 l
  have ndA : (a :: (l.addrs ++ lc.addrs)).Nodup := pAd.nodup_iff.mp nd
  have memA : ∀ b ∈ a :: (l.addrs ++ lc.addrs), b ∈ (lc.fill a k v0 l).addrs := fun b hb => pAd.mem_iff.mpr hb
  have ord' := Loc.fill_ord.mp (show (lc.fill a k v0 l).ord from ord)
  obtain ⟨ad, akt, avt, az, adz, ag, agd⟩ := ca
  simp only [tptr, Loc.fill_a] at hI
  have htl : ∀ p ∈ [(H, instObj 201 I), (I, hdict q1 q2 u1 u2 D (.ref (lc.ra a))), (D, oD), (a, nodeObj ad (.int k akt) (.int v0 avt) pr pa nx l.ptr)], h₁.get? p.1 = some p.2 :=
    all4 (ks₁ _ _ hH) (ks₁ _ _ hI) (ks₁ _ _ hD) (ks₁ _ _ ag)
  obtain ⟨g, rest, F, N, Sg, hne, kg, _, uns⟩ := focus (fun b o e => ks₁ b o (S₀ b o e)) hLz ns₁ [(H, instObj 201 I), (I, hdict q1 q2 u1 u2 D (.ref (lc.ra a))), (D, oD), (a, nodeObj ad (.int k akt) (.int v0 avt) pr pa nx l.ptr)]
    htl (all4 (Nat.ne_of_lt (lt hH)) (Nat.ne_of_lt (lt hI)) (Nat.ne_of_lt (lt hD)) (Nat.ne_of_lt (lt ag))) (all4 g0H g0I g0D (h0n az))
  have X := G.X.keeps Sg
  have T := G.T.keeps Sg
  have hr := hne _ (.tail _ (.tail _ (.tail _ (.head _))))
  dsimp only at hr
  simp only [List.cons_append, List.nil_append] at N
  have nDz : ∀ {x : Nat}, x < z → ad ≠ x := fun hx e => Nat.lt_irrefl _ (Nat.lt_of_lt_of_le hx (e ▸ adz))
  have eb : ∀ h' m', Fr g L h' m' → News g L h' rest → h'.get? ad = some emptyDict := fun h' m' F' N' => uns h' m' F' N' ad _ (ks₁ _ _ agd) (Nat.ne_of_lt (lt agd)) (by simpa using ⟨nDz zH, nDz zI, nDz zD, nDict ag agd⟩)
  clear hne kg
  (try dsimp only)
  with_reducible show wpAny _ _ _ _ _ _
  k_fold
  k_steps
  unfold Hold
  with_reducible rename Fr _ _ _ _ => F1
  with_reducible rename News _ _ _ _ => N1
  have hu := uns _ _ F1 (newsTail (newsTail (newsTail (newsTail N1))))
  have hH2 := news_get N1 (.head _)
  have hI2 := news_get N1 (.tail _ (.head _))
  have hD2 := news_get N1 (.tail _ (.tail _ (.head _)))
  have ag2 := news_get N1 (.tail _ (.tail _ (.tail _ (.head _))))
  have k1 := keepSet (P := fun b => b = a) hu (by
    simp only [List.map_cons, List.map_nil]
    exact all4 (.inr ⟨_, ks₁ _ _ hH, hH2⟩) (.inr ⟨_, ks₁ _ _ hI, hI2⟩) (.inr ⟨_, ks₁ _ _ hD, hD2⟩) (.inl rfl))
  have St1 : Step z [a] s.heap _ := ⟨fun b o e n => k1 b o (ks₁ _ _ e) (Nat.ne_of_lt (lt e)) (by simpa using n), by simp only [List.mem_singleton, forall_eq]; intro _; rw [ag]; exact node_ne_empty⟩
  have aF : ∀ b ∈ l.addrs, b ∉ [a] := fun b hb e => by
    simp only [List.mem_singleton] at e; subst e
    exact (List.nodup_cons.mp ndA).1 (List.mem_append_left _ hb)
  have aF2 : ∀ b ∈ lc.addrs, b ∉ [a] := fun b hb e => by
    simp only [List.mem_singleton] at e; subst e
    exact (List.nodup_cons.mp ndA).1 (List.mem_append_right _ hb)
  have rl2 := rl.step St1 aF
  have rlo2 := rlo.step St1 aF2
  have ca2 : Cell z _ a k v l.ptr nx pa pr := ⟨ad, akt, vt, az, adz, ag2, k1 _ _ (ks₁ _ _ agd) (Nat.ne_of_lt (lt agd)) (nDict ag agd)⟩
  have ns2 := F1.ns
  have S2 : g0.StaysIn _ := fun b o e => F1.keep b o (Sg b o e)
  clear uns hu eb X T F1 N1 hr Sg
  have ndl : (a :: l.addrs).Nodup := List.nodup_cons.mpr ⟨fun h => (List.nodup_cons.mp ndA).1 (List.mem_append_left _ h), (List.nodup_append.mp (List.nodup_cons.mp ndA).2).1⟩
  refine wpAny_call ?_
  have hM := @merge_spec
  refine merge_spec (a := a) (k := k) (v := v) (l := l) (nx := nx) (pa := pa) (pr := pr) G ?kS ?kd hH2 hI2 ?kz ca2 rl2 ndl ?kn ?ks
  case kS => exact S2
  case kd => show dp + 1 + 20 < recursionLimit; first | exact room_le (d := dp) (b := 21) hdp (by decide) | omega
  case kz => exact Nat.le_trans hLz (Nat.le_of_lt ns2.lt)
  case kn =>
    intro hl0 h3 tk3 St3 ca3
    subst hl0
    have aL := ns_notNode ns2 ca2
    have aI : a ≠ I := fun e => Nat.lt_irrefl _ (Nat.lt_of_lt_of_le zI (e ▸ az))
    have ns3 := ns_step ns2 St3 (by simpa [B.addrs] using Ne.symm aL)
    have S3 := staysStep S2 St3 G.sz (by simpa [B.addrs] using az)
    have rlo3 := rlo2.step St3 (by simpa [B.addrs] using aF2)
    have hI3 := St3.keep _ _ hI2 (by simpa [B.addrs] using Ne.symm aI)
    have IL := Nat.ne_of_lt (lt hI)
    clear hM
    obtain ⟨g, rest, F, N, Sg, _, _, _, uns⟩ := focus S3 hLz ns3 [] (by simp) (by simp) (by simp)
    have X := G.X.keeps Sg
    have T := G.T.keeps Sg
    simp only [List.nil_append] at N
    dsimp only
    with_reducible show wpAny _ _ _ _ _ _
    k_fold
    k_steps
    with_reducible rename Fr _ _ _ _ => F1
    with_reducible rename News _ _ _ _ => N1
    have hu := uns _ _ F1 N1
    have nLa := ns_notEmpty ns3 (x := Str.ofString "self") (by rfl)
    have Sx := stepOf (z := z) (l := []) nLa (fun b o e n1 n2 => hu b o e n1 (by simp)) (by simp)
    have StF : Step z (I :: (lc.fill a k v0 .nil).addrs) s.heap _ := ⟨fun b o e n => by
      simp only [List.mem_cons, not_or] at n
      have hba : b ≠ a := fun q => n.2 (q ▸ memA a (.head _))
      exact hu b o (St3.keep b o (St1.keep b o e (by simpa using hba)) (by simpa [B.addrs] using hba)) (Nat.ne_of_lt (lt e)) (by simp), onlyF⟩
    refine hR _ _ (lc.fill a k v .nil) StF (hs0.tree StF (fun b hb => (List.mem_cons.mp hb).imp id (trZ b)) ⟨q1, q2, u1, u2, ?_⟩ (topC_loc.mpr ⟨nx, pa, pr, ca3.stepL ns3 Sx (by simp), trivial, rlo3.stepL ns3 Sx (by simp)⟩) (Loc.fill_ord.mpr ⟨trivial, Loc.ordL_up ord'.2 (Int.le_of_lt hup)⟩) ⟨a, k, v0, v, _, lc.fill_items a k v0 .nil, lc.fill_items a k v .nil⟩) (lc.fill_items a k v .nil)
    simp only [tptr, Loc.fill_a]
    exact hu _ _ hI3 IL (by simp)
  case ks =>
    intro h3 tk3 u St3 ca3 tu pu ou
    clear hM
    have pua : u.addrs.Perm l.addrs := by
      rw [Tp.addrs_items, B.addrs_items]; exact pu.map _
    have aL := ns_notNode ns2 ca2
    have zlt : ∀ {b : Nat}, b < z → b ∉ a :: l.addrs := fun hb hm => Nat.lt_irrefl _ (Nat.lt_of_lt_of_le hb (trZ _ (memA _ (by
      rcases List.mem_cons.mp hm with rfl | hm
      · exact .head _
      · exact .tail _ (List.mem_append_left _ hm)))))
    have nL2 : L ∉ a :: l.addrs := fun hm => by
      rcases List.mem_cons.mp hm with q | hm
      · exact aL q.symm
      · obtain ⟨_, _, _, _, _, _, c⟩ := rl2.cell L hm
        exact ns_notNode ns2 c rfl
    have ns3 := ns_step ns2 St3 nL2
    have S3 := staysStep S2 St3 G.sz (fun b hb => trZ b (memA _ (by
      rcases List.mem_cons.mp hb with rfl | hm
      · exact .head _
      · exact .tail _ (List.mem_append_left _ hm))))
    have dj : ∀ b ∈ lc.addrs, b ∉ a :: l.addrs := fun b hb hm => by
      rcases List.mem_cons.mp hm with rfl | hm
      · exact (List.nodup_cons.mp ndA).1 (List.mem_append_right _ hb)
      · exact (List.nodup_append.mp (List.nodup_cons.mp ndA).2).2.2 b hm b hb rfl
    have rlo3 := rlo2.step St3 dj
    have hH3 := St3.keep _ _ hH2 (zlt zH)
    have hI3 := St3.keep _ _ hI2 (zlt zI)
    have IL := Nat.ne_of_lt (lt hI)
    have HL := Nat.ne_of_lt (lt hH)
    have htl3 : ∀ p ∈ [(H, instObj 201 I), (I, hdict q1 q2 u1 u2 D (.ref (lc.ra a)))], h3.get? p.1 = some p.2 := all2 hH3 hI3
    obtain ⟨g, rest, F, N, Sg, _, _, _, uns⟩ := focus S3 hLz ns3 [(H, instObj 201 I), (I, hdict q1 q2 u1 u2 D (.ref (lc.ra a)))] htl3 (all2 HL IL) (all2 g0H g0I)
    have X := G.X.keeps Sg
    have T := G.T.keeps Sg
    simp only [List.cons_append, List.nil_append] at N
    dsimp only
    with_reducible show wpAny _ _ _ _ _ _
    k_fold
    k_steps
    unfold Hold
    with_reducible rename Fr _ _ _ _ => F1
    with_reducible rename News _ _ _ _ => N1
    have hu3 := keepAll (uns _ _ F1 (newsTail (newsTail N1))) N1 htl3
    have nLa := ns_notEmpty ns3 (x := Str.ofString "self") (by rfl)
    have Sx := stepOf (z := z) (l := []) nLa hu3 (by simp)
    have t1T : TopC z _ (lc.fill a k v .nil) := topC_loc.mpr ⟨nx, pa, pr, ca3.stepL ns3 Sx (by simp), trivial, rlo3.stepL ns3 Sx (by simp)⟩
    have uT := tu.stepL ns3 Sx (by simp)
    have p1 := lc.fill_addrs a k v .nil
    have pX : ((lc.fill a k v .nil).addrs ++ u.addrs).Perm (a :: (l.addrs ++ lc.addrs)) := by
      refine (List.Perm.append p1 pua).trans ?_
      simp only [B.addrs, List.nil_append, List.cons_append]
      exact List.Perm.cons _ List.perm_append_comm
    have ndu := pX.nodup_iff.mpr ndA
    have S4 : g0.StaysIn _ := fun b o e => F1.keep b o (Sg b o e)
    have ns4 := F1.ns
    have hH4 := hu3 _ _ hH3 HL (by simp)
    have hI4 := hu3 _ _ hI3 IL (by simp)
    clear uns X T F1 N1 Sg
    refine wpAny_call ?_
    refine link_spec2 (t := lc.fill a k v .nil) (u := u) G (Loc.fill_a lc a k v .nil).symm rfl ?lS ?ld t1T uT ndu ?lR
    case lS => exact S4
    case ld => show dp + 1 + 10 < recursionLimit; first | exact room_le (d := dp) (b := 11) hdp (by decide) | omega
    case lR =>
    intro h5 tk5 St5 T5
    have perm5 := linkT_items (lc.fill a k v .nil) u
    have ord5 := linkT_ord (t := lc.fill a k v .nil) (u := u) (Loc.fill_ord.mpr ⟨trivial, Loc.ordL_up ord'.2 (Int.le_of_lt hup)⟩) (ou v0 ord'.1)
    generalize linkT (lc.fill a k v .nil) u = t' at *
    have nX : ∀ {b : Nat}, b < z → b ∉ (lc.fill a k v .nil).addrs ++ u.addrs := fun hb hm => Nat.lt_irrefl _ (Nat.lt_of_lt_of_le hb (trZ _ (memA _ (pX.mem_iff.mp hm))))
    have nLX : L ∉ (lc.fill a k v .nil).addrs ++ u.addrs := fun hm => (List.mem_append.mp hm).elim (topC_L t1T ns4) (topC_L uT ns4)
    have ns5 := ns_step ns4 St5 nLX
    have S5 := staysStep S4 St5 G.sz (fun b hm => trZ _ (memA _ (pX.mem_iff.mp hm)))
    have hH5 := St5.keep _ _ hH4 (nX zH)
    have hI5 := St5.keep _ _ hI4 (nX zI)
    obtain ⟨g, rest, F, N, Sg, hne, _, _, uns⟩ := focus S5 hLz ns5 [(H, instObj 201 I), (I, hdict q1 q2 u1 u2 D (.ref (lc.ra a)))] (all2 hH5 hI5) (all2 HL IL) (all2 g0H g0I)
    have X := G.X.keeps Sg
    have T := G.T.keeps Sg
    have hr := hne _ (.tail _ (.head _))
    dsimp only at hr
    simp only [List.cons_append, List.nil_append] at N
    dsimp only
    with_reducible show wpAny _ _ _ _ _ _
    k_fold
    k_steps
    with_reducible rename Fr _ _ _ _ => F1
    with_reducible rename News _ _ _ _ => N1
    have hu := uns _ _ F1 (newsTail (newsTail N1))
    have hH6 := news_get N1 (.head _)
    have hI6 := news_get N1 (.tail _ (.head _))
    have k6 := keepSet (P := fun b => b = I) hu (by
      simp only [List.map_cons, List.map_nil]
      exact all2 (.inr ⟨_, hH5, hH6⟩) (.inl rfl))
    have nL5 := ns_notEmpty ns5 (x := Str.ofString "self") (by rfl)
    have S6 := stepOf (z := I) (l := [I]) nL5 (fun b o e n1 n2 => k6 b o e n1 (by simpa using n2)) (by simp only [List.mem_singleton, forall_eq]; rw [hI5]; intro q; cases q)
    have StF : Step z (I :: (lc.fill a k v0 l).addrs) s.heap _ := ⟨fun b o e n => by
      simp only [List.mem_cons, not_or] at n
      have hba : b ∉ a :: (l.addrs ++ lc.addrs) := fun q => n.2 (memA _ q)
      have hb3 : b ∉ a :: l.addrs := fun q => by
        rcases List.mem_cons.mp q with rfl | q
        · exact hba (.head _)
        · exact hba (.tail _ (List.mem_append_left _ q))
      exact k6 b o (St5.keep b o (hu3 b o (St3.keep b o (St1.keep b o e (by
        simp only [List.mem_singleton]; rintro rfl; exact hba (.head _))) hb3) (Nat.ne_of_lt (lt e)) (by simp)) (fun q => hba (pX.mem_iff.mp q))) (Nat.ne_of_lt (lt e)) n.1, onlyF⟩
    have pF : t'.items.Perm ((a, k, v) :: (l.items ++ lc.items)) := by
      refine perm5.trans ((List.Perm.append (lc.fill_items a k v .nil) pu).trans ?_)
      simp only [B.items, List.nil_append, List.cons_append]
      exact List.Perm.cons _ List.perm_append_comm
    refine hR _ _ t' StF (hs0.tree StF (fun b hb => (List.mem_cons.mp hb).imp id (trZ b)) ⟨q1, q2, u1, u2, hI6⟩ (TopC.step T5 (F := [L, I]) ⟨fun b o e n => k6 b o e (by simp only [List.mem_cons, not_or] at n; exact n.1) (by simp only [List.mem_cons, not_or] at n; exact n.2.1), ?_⟩ ?_) ord5 ⟨a, k, v0, v, _, lc.fill_items a k v0 l, pF⟩) pF
    · simp only [List.mem_cons, List.not_mem_nil, or_false, forall_eq_or_imp, forall_eq]
      exact ⟨fun _ => nL5, fun hz => absurd hz (Nat.not_le.mpr zI)⟩
    · intro b hb
      simp only [List.mem_cons, List.not_mem_nil, or_false, not_or]
      exact ⟨fun q => topC_L T5 ns5 (q ▸ hb), fun q => Nat.lt_irrefl _ (Nat.lt_of_lt_of_le zI (q ▸ T5.le b hb))⟩

end
end
end
section
open PySem PySem.W PyProof.Rows PySem.Calls
section
example : True := by
  w_top off
  k_with_none
  k_with "eval Name" => (k_here; k_dflt (refine' nameX_L ?F ?v ?_ ?a ?b; (case F => k_asm); (case a => exact Eq.refl _); (case b => exact Eq.refl (some NameKind.local)); (case v => exact Eq.refl (some _)); k_whole))
  k_with "k_ne" => (refine neN ?_; (try dsimp only); first | assumption | (apply Ne.symm; assumption))
  k_with "k_inst" => ((refine' instR ?F ?N ?h1 ?hd ?hs; (case F => k_asm); (case N => k_asm); (case h1 => k_mem); (case hd => assumption); (case hs => (intro p9 h9; repeat (first | exact h9 | refine List.Mem.tail _ ?_)))))
  k_with "k_all" => (assumption)
  k_with "k_handed" => (assumption)
  k_with "call ref" => (with_reducible show wpAny _ _ (PySem.call (Value.ref 184) _ _) _ _ _; refine Hold.mk ?_)
  k_with "call ref" => (with_reducible show wpAny _ _ (PySem.call (Value.ref 191) _ _) _ _ _; refine Hold.mk ?_)
  k_with "call ref" => (with_reducible show wpAny _ _ (PySem.call (Value.ref 198) _ _) _ _ _; refine Hold.mk ?_)
  k_with "getMethod ref" => (k_here; k_dflt (refine' kdg_method (knd := PySem.intKind _ _) ?N ?hp ?hd ?_; (case N => k_asm); (case hp => k_mem); (case hd => assumption); k_whole))
  k_with "call builtin:dict.get" => (k_here; k_dflt (refine' kdg_get1 (knd := PySem.intKind _ _) ?N ?hp ?hd ?lo (intKind_is _ _ _ _) _ ?hl ?_; (case N => k_asm); (case hp => k_mem); (case hd => assumption); (case lo => assumption); (case hl => assumption); k_whole); (try dsimp only [Option.getD]))
  k_with "compareOp IsNot ref ref" => (k_here; k_dflt (refine' isnotA ?er ?F ?N ?hc ?ne ?_; (case er => assumption); (case F => k_asm); (case N => k_asm); (case hc => kto_not); (case ne => assumption); k_whole))
  k_with "k_room" => ((try simp only [depth_under_make, depth_under_kw, depth_in1, depth_deeper, depth_caller, depth_mark]); (try dsimp only); first | exact room_le (b := 1) (by assumption) (by decide) | exact room_le (b := 2) (by assumption) (by decide) | exact room_le (b := 3) (by assumption) (by decide) | exact room_le (b := 4) (by assumption) (by decide))
  trivial
set_option maxRecDepth 100000
set_option maxHeartbeats 8000000


theorem all5 {α : Type} {P : α → Prop} {a b c d e : α} (h1 : P a) (h2 : P b) (h3 : P c) (h4 : P d) (h5 : P e) : ∀ p ∈ [a, b, c, d, e], P p := by simp [h1, h2, h3, h4, h5]
theorem Zp.ra_mem : ∀ c : Zp, c.ra ∈ c.addrs
  | .root p _ _ => .head _
  | .left b _ _ r up => .tail _ (List.mem_append_right _ up.ra_mem)
  | .next b _ _ l up => .tail _ (List.mem_append_right _ up.ra_mem)
def Alive (g : Heap) (L : Nat) (p : Addr × Obj) (rest : List (Addr × Obj)) (y : Nat) : Prop :=
  ∀ h' m' x1 x2 x3 x4, Fr g L h' m' → News g L h' (x1 :: x2 :: x3 :: x4 :: p :: rest) → ∃ o, h'.get? y = some o
theorem isnotA {M : Model} {A : Around} {E : Value → Shared → Prop} {s : Shared} {g : Heap} {L x y : Nat} {m : Str → Option Value} {ox : Obj} {p x1 x2 x3 : Addr × Obj} {rest : List (Addr × Obj)} {Q : Value → Shared → Prop}
    (er : Alive g L p rest y) (F : Fr g L s.heap m) (N : News g L s.heap (x1 :: x2 :: x3 :: (x, ox) :: p :: rest)) (hc : ox.cls ≠ Value.type "tuple") (hxy : @Ne Nat x y) (hq : Q (.bool true) s) : wpAny M A (compareOp .IsNot (.ref x) (.ref y)) Q E s := by
  obtain ⟨oy, e⟩ := er _ _ _ _ _ _ F N
  exact kto_isnot (news_get N (.tail _ (.tail _ (.tail _ (.head _))))) e hxy hc hq
section
variable {w : World} {dp un : Nat} {gd : Option (List Code)} {outer : List Env} {mean : ExcName → Option Value} {mg mb : Str → Option Value} {g0 : Heap} {z : Nat} {R : Result → Shared → Prop} {s : Shared} {self : Value}

theorem insert_low_top {H I D a : Nat} {k v v0 : Int} {kt vt : Tok} {l : B} {kvs : List (Int × Value)} {upv : Bool} (G : Gd w mean mg mb g0 z) (S₀ : g0.StaysIn s.heap) (hdp : dp + 40 < recursionLimit)
    (hsz : g0.objs.size ≤ s.heap.objs.size) (g0H : g0.get? H = none) (g0I : g0.get? I = none) (g0D : g0.get? D = none)
    (hs : HS Challenge.rw_bf0021_01.row.prog w z s.heap H I D (some (Loc.top.fill a k v0 l)) kvs)
    (hk : valueAt kvs k = some (.ref a)) (hv : v < v0) 
    (hR : ∀ h' tk t', Step z (I :: (Loc.top.fill a k v0 l).addrs) s.heap h' → HS Challenge.rw_bf0021_01.row.prog w z h' H I D (some t') kvs → t'.items.Perm ((a, k, v) :: (l.items ++ Loc.top.items)) → R (.ok (.ret (.bool true))) { s with heap := h', toks := tk }) :
    codeAny (model Challenge.rw_bf0021_01.row.prog w) (Ar dp un gd outer) (.call (.ref 177) ⟨[.ref H, .int k kt, .int v vt, .bool upv], []⟩) R s := by
  have XS := G.X.keeps S₀
  have TS := G.T.keeps S₀
  k_dflt (refine' enterF XS TS.nolimit ?k1 ?k2 ?k3 ?k4 ?k5 ?k6 ?c1 ?c2 ?c3 ?c4;
          (case k1 => k_is);
          (case k2 => k_is);
          (case k3 => simp only []; omega);
          (case k4 => first | exact BindsTo.of_eq rfl | exact binds_K (by k_in) rfl (by k_is) rfl rfl rfl);
          (case k5 => exact locs rfl);
          (case c1 => exact rfl);
          (case c2 => exact rfl);
          (case c3 => exact rfl);
          (case c4 => decide))
  intro L h₁ tk₁ ns₁ hL ks₁
  have hLz : g0.objs.size ≤ L := Nat.le_trans hsz hL
  have lt : ∀ {b o}, s.heap.get? b = some o → b < L := fun e => Nat.lt_of_lt_of_le (Heap.lt_size e) hL
  have h0n : ∀ {b : Nat}, z ≤ b → g0.get? b = none := fun {b} hb => by
    cases e : g0.get? b with
    | none => rfl
    | some o => exact absurd (Nat.lt_of_lt_of_le (Heap.lt_size e) G.sz) (Nat.not_lt.mpr hb)
  have hs0 := hs
  obtain ⟨hH, ⟨q1, q2, u1, u2, hI⟩, ⟨oD, hD, hDo⟩, lo, hID, hHD, zH, zI, zD, tr, ord, nd, keys, small⟩ := hs
  have hHI : H ≠ I := fun e => by rw [← e, hH] at hI; cases hI
  have trD : ∀ b ∈ (Loc.top.fill a k v0 l).addrs, z ≤ b → s.heap.get? b ≠ some emptyDict := TopC.notDict tr
  have trZ : ∀ b ∈ (Loc.top.fill a k v0 l).addrs, z ≤ b := TopC.le tr
  have onlyF : ∀ b ∈ I :: (Loc.top.fill a k v0 l).addrs, z ≤ b → s.heap.get? b ≠ some emptyDict := fun b hb hz => by
    rcases List.mem_cons.mp hb with rfl | hb
    · exact absurd hz (Nat.not_le.mpr zI)
    · exact trD b hb hz
  obtain ⟨nx, pa, pr, ca, rl, rlo⟩ := topC_loc.mp (show TopC z s.heap (Loc.top.fill a k v0 l) from tr)
  have pAd := Loc.fill_addrs Loc.top a k v0 l
  have ndA : (a :: (l.addrs ++ Loc.top.addrs)).Nodup := pAd.nodup_iff.mp nd
  have memA : ∀ b ∈ a :: (l.addrs ++ Loc.top.addrs), b ∈ (Loc.top.fill a k v0 l).addrs := fun b hb => pAd.mem_iff.mpr hb
  have ord' := Loc.fill_ord.mp (show (Loc.top.fill a k v0 l).ord from ord)
  obtain ⟨ad, akt, avt, az, adz, ag, agd⟩ := ca
  simp only [tptr, Loc.fill_a] at hI
  have htl : ∀ p ∈ [(H, instObj 201 I), (I, hdict q1 q2 u1 u2 D (.ref (Loc.top.ra a))), (D, oD), (a, nodeObj ad (.int k akt) (.int v0 avt) pr pa nx l.ptr)], h₁.get? p.1 = some p.2 :=
    all4 (ks₁ _ _ hH) (ks₁ _ _ hI) (ks₁ _ _ hD) (ks₁ _ _ ag)
  obtain ⟨g, rest, F, N, Sg, hne, kg, _, uns⟩ := focus (fun b o e => ks₁ b o (S₀ b o e)) hLz ns₁ [(H, instObj 201 I), (I, hdict q1 q2 u1 u2 D (.ref (Loc.top.ra a))), (D, oD), (a, nodeObj ad (.int k akt) (.int v0 avt) pr pa nx l.ptr)]
    htl (all4 (Nat.ne_of_lt (lt hH)) (Nat.ne_of_lt (lt hI)) (Nat.ne_of_lt (lt hD)) (Nat.ne_of_lt (lt ag))) (all4 g0H g0I g0D (h0n az))
  have X := G.X.keeps Sg
  have T := G.T.keeps Sg
  have hr := hne _ (.tail _ (.tail _ (.tail _ (.head _))))
  dsimp only at hr
  simp only [List.cons_append, List.nil_append] at N
  have nDz : ∀ {x : Nat}, x < z → ad ≠ x := fun hx e => Nat.lt_irrefl _ (Nat.lt_of_lt_of_le hx (e ▸ adz))
  have eb : ∀ h' m', Fr g L h' m' → News g L h' rest → h'.get? ad = some emptyDict := fun h' m' F' N' => uns h' m' F' N' ad _ (ks₁ _ _ agd) (Nat.ne_of_lt (lt agd)) (by simpa using ⟨nDz zH, nDz zI, nDz zD, nDict ag agd⟩)
  clear hne kg
  (try dsimp only)
  with_reducible show wpAny _ _ _ _ _ _
  k_fold
  k_steps
  with_reducible rename Fr _ _ _ _ => F1
  with_reducible rename News _ _ _ _ => N1
  have hu := uns _ _ F1 (newsTail (newsTail (newsTail (newsTail N1))))
  have hH2 := news_get N1 (.head _)
  have hI2 := news_get N1 (.tail _ (.head _))
  have hD2 := news_get N1 (.tail _ (.tail _ (.head _)))
  have ag2 := news_get N1 (.tail _ (.tail _ (.tail _ (.head _))))
  have k1 := keepSet (P := fun b => b = a) hu (by
    simp only [List.map_cons, List.map_nil]
    exact all4 (.inr ⟨_, ks₁ _ _ hH, hH2⟩) (.inr ⟨_, ks₁ _ _ hI, hI2⟩) (.inr ⟨_, ks₁ _ _ hD, hD2⟩) (.inl rfl))
  have St1 : Step z [a] s.heap _ := ⟨fun b o e n => k1 b o (ks₁ _ _ e) (Nat.ne_of_lt (lt e)) (by simpa using n), by simp only [List.mem_singleton, forall_eq]; intro _; rw [ag]; exact node_ne_empty⟩
  have aF : ∀ b ∈ l.addrs, b ∉ [a] := fun b hb e => by
    simp only [List.mem_singleton] at e; subst e
    exact (List.nodup_cons.mp ndA).1 (List.mem_append_left _ hb)
  have aF2 : ∀ b ∈ Loc.top.addrs, b ∉ [a] := fun b hb e => by
    simp only [List.mem_singleton] at e; subst e
    exact (List.nodup_cons.mp ndA).1 (List.mem_append_right _ hb)
  have rl2 := rl.step St1 aF
  have rlo2 := rlo.step St1 aF2
  have ca2 : Cell z _ a k v l.ptr nx pa pr := ⟨ad, akt, vt, az, adz, ag2, k1 _ _ (ks₁ _ _ agd) (Nat.ne_of_lt (lt agd)) (nDict ag agd)⟩
  have StF : Step z (I :: (Loc.top.fill a k v0 l).addrs) s.heap _ := ⟨fun b o e n => by
      simp only [List.mem_cons, not_or] at n
      have hba : b ≠ a := fun q => n.2 (q ▸ memA a (.head _))
      exact St1.keep b o e (by simpa using hba), onlyF⟩
  refine hR _ _ (Loc.top.fill a k v l) StF (hs0.tree StF (fun b hb => (List.mem_cons.mp hb).imp id (trZ b)) ⟨q1, q2, u1, u2, ?_⟩ (topC_loc.mpr ⟨_, _, _, ca2, rl2, rlo2⟩) (Loc.fill_ord.mpr ⟨B.ge_mono (Int.le_of_lt hv) ord'.1, trivial⟩) ⟨a, k, v0, v, _, Loc.fill_items Loc.top a k v0 l, Loc.fill_items Loc.top a k v l⟩) (Loc.fill_items Loc.top a k v l)
  simp only [tptr, Loc.fill_a]
  exact hI2

theorem insert_low_stay {H I D a : Nat} {c : Zp} {r : B} {k v v0 : Int} {kt vt : Tok} {l : B} {kvs : List (Int × Value)} {upv : Bool} (G : Gd w mean mg mb g0 z) (S₀ : g0.StaysIn s.heap) (hdp : dp + 40 < recursionLimit)
    (hsz : g0.objs.size ≤ s.heap.objs.size) (g0H : g0.get? H = none) (g0I : g0.get? I = none) (g0D : g0.get? D = none)
    (hs : HS Challenge.rw_bf0021_01.row.prog w z s.heap H I D (some ((Loc.sub c r).fill a k v0 l)) kvs)
    (hk : valueAt kvs k = some (.ref a)) (hv : v < v0) (hp : ¬ v < c.pval)
    (hR : ∀ h' tk t', Step z (I :: ((Loc.sub c r).fill a k v0 l).addrs) s.heap h' → HS Challenge.rw_bf0021_01.row.prog w z h' H I D (some t') kvs → t'.items.Perm ((a, k, v) :: (l.items ++ (Loc.sub c r).items)) → R (.ok (.ret (.bool true))) { s with heap := h', toks := tk }) :
    codeAny (model Challenge.rw_bf0021_01.row.prog w) (Ar dp un gd outer) (.call (.ref 177) ⟨[.ref H, .int k kt, .int v vt, .bool upv], []⟩) R s := by
  have XS := G.X.keeps S₀
  have TS := G.T.keeps S₀
  k_dflt (refine' enterF XS TS.nolimit ?k1 ?k2 ?k3 ?k4 ?k5 ?k6 ?c1 ?c2 ?c3 ?c4;
          (case k1 => k_is);
          (case k2 => k_is);
          (case k3 => simp only []; omega);
          (case k4 => first | exact BindsTo.of_eq rfl | exact binds_K (by k_in) rfl (by k_is) rfl rfl rfl);
          (case k5 => exact locs rfl);
          (case c1 => exact rfl);
          (case c2 => exact rfl);
          (case c3 => exact rfl);
          (case c4 => decide))
  intro L h₁ tk₁ ns₁ hL ks₁
  have hLz : g0.objs.size ≤ L := Nat.le_trans hsz hL
  have lt : ∀ {b o}, s.heap.get? b = some o → b < L := fun e => Nat.lt_of_lt_of_le (Heap.lt_size e) hL
  have h0n : ∀ {b : Nat}, z ≤ b → g0.get? b = none := fun {b} hb => by
    cases e : g0.get? b with
    | none => rfl
    | some o => exact absurd (Nat.lt_of_lt_of_le (Heap.lt_size e) G.sz) (Nat.not_lt.mpr hb)
  have hs0 := hs
  obtain ⟨hH, ⟨q1, q2, u1, u2, hI⟩, ⟨oD, hD, hDo⟩, lo, hID, hHD, zH, zI, zD, tr, ord, nd, keys, small⟩ := hs
  have hHI : H ≠ I := fun e => by rw [← e, hH] at hI; cases hI
  have trD : ∀ b ∈ ((Loc.sub c r).fill a k v0 l).addrs, z ≤ b → s.heap.get? b ≠ some emptyDict := TopC.notDict tr
  have trZ : ∀ b ∈ ((Loc.sub c r).fill a k v0 l).addrs, z ≤ b := TopC.le tr
  have onlyF : ∀ b ∈ I :: ((Loc.sub c r).fill a k v0 l).addrs, z ≤ b → s.heap.get? b ≠ some emptyDict := fun b hb hz => by
    rcases List.mem_cons.mp hb with rfl | hb
    · exact absurd hz (Nat.not_le.mpr zI)
    · exact trD b hb hz
  obtain ⟨nx, pa, pr, ca, rl, rlo⟩ := topC_loc.mp (show TopC z s.heap ((Loc.sub c r).fill a k v0 l) from tr)
  have pAd := Loc.fill_addrs (Loc.sub c r) a k v0 l
  have ndA : (a :: (l.addrs ++ (Loc.sub c r).addrs)).Nodup := pAd.nodup_iff.mp nd
  have memA : ∀ b ∈ a :: (l.addrs ++ (Loc.sub c r).addrs), b ∈ ((Loc.sub c r).fill a k v0 l).addrs := fun b hb => pAd.mem_iff.mpr hb
  have ord' := Loc.fill_ord.mp (show ((Loc.sub c r).fill a k v0 l).ord from ord)
  obtain ⟨ad, akt, avt, az, adz, ag, agd⟩ := ca
  simp only [tptr, Loc.fill_a] at hI
  obtain ⟨rz, rr, rfl, rfl, rfl⟩ := rlo
  obtain ⟨parM, pk, pl, pn, pp, pq, cp⟩ := rz.par
  obtain ⟨pd, pkt, pvt, pz, pdz, pg, pgd⟩ := cp
  have aPar : a ≠ c.par := fun e => (List.nodup_cons.mp ndA).1 (List.mem_append_right _ (e ▸ List.mem_append_right _ parM))
  have aRa : @Ne Nat a c.ra := fun e => by
    have h1 : c.ra ∈ c.addrs := Zp.ra_mem c
    exact (List.nodup_cons.mp ndA).1 (List.mem_append_right _ (e ▸ List.mem_append_right _ h1))
  have aPar' : @Ne Nat a c.par := aPar
  have htl : ∀ p ∈ [(H, instObj 201 I), (I, hdict q1 q2 u1 u2 D (.ref c.ra)), (D, oD), (a, nodeObj ad (.int k akt) (.int v0 avt) c.prev (.ref c.par) r.ptr l.ptr), (c.par, nodeObj pd (.int pk pkt) (.int c.pval pvt) pq pp pn pl)], h₁.get? p.1 = some p.2 :=
    all5 (ks₁ _ _ hH) (ks₁ _ _ hI) (ks₁ _ _ hD) (ks₁ _ _ ag) (ks₁ _ _ pg)
  obtain ⟨g, rest, F, N, Sg, hne, kg, _, uns⟩ := focus (fun b o e => ks₁ b o (S₀ b o e)) hLz ns₁ [(H, instObj 201 I), (I, hdict q1 q2 u1 u2 D (.ref c.ra)), (D, oD), (a, nodeObj ad (.int k akt) (.int v0 avt) c.prev (.ref c.par) r.ptr l.ptr), (c.par, nodeObj pd (.int pk pkt) (.int c.pval pvt) pq pp pn pl)]
    htl (all5 (Nat.ne_of_lt (lt hH)) (Nat.ne_of_lt (lt hI)) (Nat.ne_of_lt (lt hD)) (Nat.ne_of_lt (lt ag)) (Nat.ne_of_lt (lt pg))) (all5 g0H g0I g0D (h0n az) (h0n pz))
  have X := G.X.keeps Sg
  have T := G.T.keeps Sg
  have hr := hne _ (.tail _ (.tail _ (.tail _ (.head _))))
  dsimp only at hr
  simp only [List.cons_append, List.nil_append] at N
  have nDz : ∀ {y x : Nat}, z ≤ y → x < z → y ≠ x := fun hy hx e => Nat.lt_irrefl _ (Nat.lt_of_lt_of_le hx (e ▸ hy))
  have eb : ∀ h' m', Fr g L h' m' → News g L h' rest → h'.get? ad = some emptyDict := fun h' m' F' N' => uns h' m' F' N' ad _ (ks₁ _ _ agd) (Nat.ne_of_lt (lt agd)) (by simpa using ⟨nDz adz zH, nDz adz zI, nDz adz zD, nDict ag agd, nDict pg agd⟩)
  have ep : ∀ h' m', Fr g L h' m' → News g L h' rest → h'.get? pd = some emptyDict := fun h' m' F' N' => uns h' m' F' N' pd _ (ks₁ _ _ pgd) (Nat.ne_of_lt (lt pgd)) (by simpa using ⟨nDz pdz zH, nDz pdz zI, nDz pdz zD, nDict ag pgd, nDict pg pgd⟩)
  have er : Alive g L (c.par, nodeObj pd (.int pk pkt) (.int c.pval pvt) pq pp pn pl) rest c.ra := fun h' m' x1 x2 x3 x4 F' N' => by
    by_cases e : c.ra = c.par
    · rw [e]; exact ⟨_, news_get N' (.tail _ (.tail _ (.tail _ (.tail _ (.head _)))))⟩
    · obtain ⟨_, _, _, _, _, _, cc⟩ := rz.cell c.ra (Zp.ra_mem c)
      obtain ⟨_, _, _, rz', _, rg, _⟩ := cc
      exact ⟨_, uns h' m' F' (newsTail (newsTail (newsTail (newsTail (newsTail N'))))) _ _ (ks₁ _ _ rg) (Nat.ne_of_lt (lt rg)) (by simpa using ⟨nDz rz' zH, nDz rz' zI, nDz rz' zD, fun q => aRa q.symm, e⟩)⟩
  clear hne kg
  (try dsimp only)
  with_reducible show wpAny _ _ _ _ _ _
  k_fold
  k_steps
  with_reducible rename Fr _ _ _ _ => F1
  with_reducible rename News _ _ _ _ => N1
  have hu := uns _ _ F1 (newsTail (newsTail (newsTail (newsTail (newsTail N1)))))
  have hH2 := news_get N1 (.head _)
  have hI2 := news_get N1 (.tail _ (.head _))
  have hD2 := news_get N1 (.tail _ (.tail _ (.head _)))
  have ag2 := news_get N1 (.tail _ (.tail _ (.tail _ (.head _))))
  have pg2 := news_get N1 (.tail _ (.tail _ (.tail _ (.tail _ (.head _)))))
  have k1 := keepSet (P := fun b => b = a) hu (by
    simp only [List.map_cons, List.map_nil]
    exact all5 (.inr ⟨_, ks₁ _ _ hH, hH2⟩) (.inr ⟨_, ks₁ _ _ hI, hI2⟩) (.inr ⟨_, ks₁ _ _ hD, hD2⟩) (.inl rfl) (.inr ⟨_, ks₁ _ _ pg, pg2⟩))
  have St1 : Step z [a] s.heap _ := ⟨fun b o e n => k1 b o (ks₁ _ _ e) (Nat.ne_of_lt (lt e)) (by simpa using n), by simp only [List.mem_singleton, forall_eq]; intro _; rw [ag]; exact node_ne_empty⟩
  have aF : ∀ b ∈ l.addrs, b ∉ [a] := fun b hb e => by
    simp only [List.mem_singleton] at e; subst e
    exact (List.nodup_cons.mp ndA).1 (List.mem_append_left _ hb)
  have aF2 : ∀ b ∈ (Loc.sub c r).addrs, b ∉ [a] := fun b hb e => by
    simp only [List.mem_singleton] at e; subst e
    exact (List.nodup_cons.mp ndA).1 (List.mem_append_right _ hb)
  have rl2 := rl.step St1 aF
  have rlo2 := (show RepL z s.heap (Loc.sub c r) a r.ptr (.ref c.par) c.prev from ⟨rz, rr, rfl, rfl, rfl⟩).step St1 aF2
  have ca2 : Cell z _ a k v l.ptr r.ptr (.ref c.par) c.prev := ⟨ad, akt, vt, az, adz, ag2, k1 _ _ (ks₁ _ _ agd) (Nat.ne_of_lt (lt agd)) (nDict ag agd)⟩
  have StF : Step z (I :: ((Loc.sub c r).fill a k v0 l).addrs) s.heap _ := ⟨fun b o e n => by
      simp only [List.mem_cons, not_or] at n
      have hba : b ≠ a := fun q => n.2 (q ▸ memA a (.head _))
      exact St1.keep b o e (by simpa using hba), onlyF⟩
  refine hR _ _ ((Loc.sub c r).fill a k v l) StF (hs0.tree StF (fun b hb => (List.mem_cons.mp hb).imp id (trZ b)) ⟨q1, q2, u1, u2, ?_⟩ (topC_loc.mpr ⟨_, _, _, ca2, rl2, rlo2⟩) (Loc.fill_ord.mpr ⟨B.ge_mono (Int.le_of_lt hv) ord'.1, ⟨ord'.2.1, Int.not_lt.mp hp, ord'.2.2.2⟩⟩) ⟨a, k, v0, v, _, Loc.fill_items (Loc.sub c r) a k v0 l, Loc.fill_items (Loc.sub c r) a k v l⟩) (Loc.fill_items (Loc.sub c r) a k v l)
  simp only [tptr, Loc.fill_a]
  exact hI2

theorem insert_low_cut {H I D a : Nat} {c : Zp} {r : B} {k v v0 : Int} {kt vt : Tok} {l : B} {kvs : List (Int × Value)} {upv : Bool} (G : Gd w mean mg mb g0 z) (S₀ : g0.StaysIn s.heap) (hdp : dp + 40 < recursionLimit)
    (hsz : g0.objs.size ≤ s.heap.objs.size) (g0H : g0.get? H = none) (g0I : g0.get? I = none) (g0D : g0.get? D = none)
    (hs : HS Challenge.rw_bf0021_01.row.prog w z s.heap H I D (some ((Loc.sub c r).fill a k v0 l)) kvs)
    (hk : valueAt kvs k = some (.ref a)) (hv : v < v0) (hp : v < c.pval)
    (hR : ∀ h' tk t', Step z (I :: ((Loc.sub c r).fill a k v0 l).addrs) s.heap h' → HS Challenge.rw_bf0021_01.row.prog w z h' H I D (some t') kvs → t'.items.Perm ((a, k, v) :: (l.items ++ (Loc.sub c r).items)) → R (.ok (.ret (.bool true))) { s with heap := h', toks := tk }) :
    codeAny (model Challenge.rw_bf0021_01.row.prog w) (Ar dp un gd outer) (.call (.ref 177) ⟨[.ref H, .int k kt, .int v vt, .bool upv], []⟩) R s := by
  have XS := G.X.keeps S₀
  have TS := G.T.keeps S₀
  k_dflt (refine' enterF XS TS.nolimit ?k1 ?k2 ?k3 ?k4 ?k5 ?k6 ?c1 ?c2 ?c3 ?c4;
          (case k1 => k_is);
          (case k2 => k_is);
          (case k3 => simp only []; omega);
          (case k4 => first | exact BindsTo.of_eq rfl | exact binds_K (by k_in) rfl (by k_is) rfl rfl rfl);
          (case k5 => exact locs rfl);
          (case c1 => exact rfl);
          (case c2 => exact rfl);
          (case c3 => exact rfl);
          (case c4 => decide))
  intro L h₁ tk₁ ns₁ hL ks₁
  have hLz : g0.objs.size ≤ L := Nat.le_trans hsz hL
  have lt : ∀ {b o}, s.heap.get? b = some o → b < L := fun e => Nat.lt_of_lt_of_le (Heap.lt_size e) hL
  have h0n : ∀ {b : Nat}, z ≤ b → g0.get? b = none := fun {b} hb => by
    cases e : g0.get? b with
    | none => rfl
    | some o => exact absurd (Nat.lt_of_lt_of_le (Heap.lt_size e) G.sz) (Nat.not_lt.mpr hb)
  have hs0 := hs
  obtain ⟨hH, ⟨q1, q2, u1, u2, hI⟩, ⟨oD, hD, hDo⟩, lo, hID, hHD, zH, zI, zD, tr, ord, nd, keys, small⟩ := hs
  have hHI : H ≠ I := fun e => by rw [← e, hH] at hI; cases hI
  have trD : ∀ b ∈ ((Loc.sub c r).fill a k v0 l).addrs, z ≤ b → s.heap.get? b ≠ some emptyDict := TopC.notDict tr
  have trZ : ∀ b ∈ ((Loc.sub c r).fill a k v0 l).addrs, z ≤ b := TopC.le tr
  have onlyF : ∀ b ∈ I :: ((Loc.sub c r).fill a k v0 l).addrs, z ≤ b → s.heap.get? b ≠ some emptyDict := fun b hb hz => by
    rcases List.mem_cons.mp hb with rfl | hb
    · exact absurd hz (Nat.not_le.mpr zI)
    · exact trD b hb hz
  obtain ⟨nx, pa, pr, ca, rl, rlo⟩ := topC_loc.mp (show TopC z s.heap ((Loc.sub c r).fill a k v0 l) from tr)
  have pAd := Loc.fill_addrs (Loc.sub c r) a k v0 l
  have ndA : (a :: (l.addrs ++ (Loc.sub c r).addrs)).Nodup := pAd.nodup_iff.mp nd
  have memA : ∀ b ∈ a :: (l.addrs ++ (Loc.sub c r).addrs), b ∈ ((Loc.sub c r).fill a k v0 l).addrs := fun b hb => pAd.mem_iff.mpr hb
  have ord' := Loc.fill_ord.mp (show ((Loc.sub c r).fill a k v0 l).ord from ord)
  obtain ⟨ad, akt, avt, az, adz, ag, agd⟩ := ca
  simp only [tptr, Loc.fill_a] at hI
  obtain ⟨rz, rr, rfl, rfl, rfl⟩ := rlo
  obtain ⟨parM, pk, pl, pn, pp, pq, cp⟩ := rz.par
  obtain ⟨pd, pkt, pvt, pz, pdz, pg, pgd⟩ := cp
  have aPar : a ≠ c.par := fun e => (List.nodup_cons.mp ndA).1 (List.mem_append_right _ (e ▸ List.mem_append_right _ parM))
  have aRa : @Ne Nat a c.ra := fun e => by
    have h1 : c.ra ∈ c.addrs := Zp.ra_mem c
    exact (List.nodup_cons.mp ndA).1 (List.mem_append_right _ (e ▸ List.mem_append_right _ h1))
  have aPar' : @Ne Nat a c.par := aPar
  have htl : ∀ p ∈ [(H, instObj 201 I), (I, hdict q1 q2 u1 u2 D (.ref c.ra)), (D, oD), (a, nodeObj ad (.int k akt) (.int v0 avt) c.prev (.ref c.par) r.ptr l.ptr), (c.par, nodeObj pd (.int pk pkt) (.int c.pval pvt) pq pp pn pl)], h₁.get? p.1 = some p.2 :=
    all5 (ks₁ _ _ hH) (ks₁ _ _ hI) (ks₁ _ _ hD) (ks₁ _ _ ag) (ks₁ _ _ pg)
  obtain ⟨g, rest, F, N, Sg, hne, kg, _, uns⟩ := focus (fun b o e => ks₁ b o (S₀ b o e)) hLz ns₁ [(H, instObj 201 I), (I, hdict q1 q2 u1 u2 D (.ref c.ra)), (D, oD), (a, nodeObj ad (.int k akt) (.int v0 avt) c.prev (.ref c.par) r.ptr l.ptr), (c.par, nodeObj pd (.int pk pkt) (.int c.pval pvt) pq pp pn pl)]
    htl (all5 (Nat.ne_of_lt (lt hH)) (Nat.ne_of_lt (lt hI)) (Nat.ne_of_lt (lt hD)) (Nat.ne_of_lt (lt ag)) (Nat.ne_of_lt (lt pg))) (all5 g0H g0I g0D (h0n az) (h0n pz))
  have X := G.X.keeps Sg
  have T := G.T.keeps Sg
  have hr := hne _ (.tail _ (.tail _ (.tail _ (.head _))))
  dsimp only at hr
  simp only [List.cons_append, List.nil_append] at N
  have nDz : ∀ {y x : Nat}, z ≤ y → x < z → y ≠ x := fun hy hx e => Nat.lt_irrefl _ (Nat.lt_of_lt_of_le hx (e ▸ hy))
  have eb : ∀ h' m', Fr g L h' m' → News g L h' rest → h'.get? ad = some emptyDict := fun h' m' F' N' => uns h' m' F' N' ad _ (ks₁ _ _ agd) (Nat.ne_of_lt (lt agd)) (by simpa using ⟨nDz adz zH, nDz adz zI, nDz adz zD, nDict ag agd, nDict pg agd⟩)
  have ep : ∀ h' m', Fr g L h' m' → News g L h' rest → h'.get? pd = some emptyDict := fun h' m' F' N' => uns h' m' F' N' pd _ (ks₁ _ _ pgd) (Nat.ne_of_lt (lt pgd)) (by simpa using ⟨nDz pdz zH, nDz pdz zI, nDz pdz zD, nDict ag pgd, nDict pg pgd⟩)
  have er : Alive g L (c.par, nodeObj pd (.int pk pkt) (.int c.pval pvt) pq pp pn pl) rest c.ra := fun h' m' x1 x2 x3 x4 F' N' => by
    by_cases e : c.ra = c.par
    · rw [e]; exact ⟨_, news_get N' (.tail _ (.tail _ (.tail _ (.tail _ (.head _)))))⟩
    · obtain ⟨_, _, _, _, _, _, cc⟩ := rz.cell c.ra (Zp.ra_mem c)
      obtain ⟨_, _, _, rz', _, rg, _⟩ := cc
      exact ⟨_, uns h' m' F' (newsTail (newsTail (newsTail (newsTail (newsTail N'))))) _ _ (ks₁ _ _ rg) (Nat.ne_of_lt (lt rg)) (by simpa using ⟨nDz rz' zH, nDz rz' zI, nDz rz' zD, fun q => aRa q.symm, e⟩)⟩
  clear hne kg
  (try dsimp only)
  with_reducible show wpAny _ _ _ _ _ _
  k_fold
  k_steps
  unfold Hold
  with_reducible rename Fr _ _ _ _ => F1
  with_reducible rename News _ _ _ _ => N1
  have hu := uns _ _ F1 (newsTail (newsTail (newsTail (newsTail (newsTail N1)))))
  have hH2 := news_get N1 (.head _)
  have hI2 := news_get N1 (.tail _ (.head _))
  have hD2 := news_get N1 (.tail _ (.tail _ (.head _)))
  have ag2 := news_get N1 (.tail _ (.tail _ (.tail _ (.head _))))
  have pg2 := news_get N1 (.tail _ (.tail _ (.tail _ (.tail _ (.head _)))))
  have k1 := keepSet (P := fun b => b = a) hu (by
    simp only [List.map_cons, List.map_nil]
    exact all5 (.inr ⟨_, ks₁ _ _ hH, hH2⟩) (.inr ⟨_, ks₁ _ _ hI, hI2⟩) (.inr ⟨_, ks₁ _ _ hD, hD2⟩) (.inl rfl) (.inr ⟨_, ks₁ _ _ pg, pg2⟩))
  have St1 : Step z [a] s.heap _ := ⟨fun b o e n => k1 b o (ks₁ _ _ e) (Nat.ne_of_lt (lt e)) (by simpa using n), by simp only [List.mem_singleton, forall_eq]; intro _; rw [ag]; exact node_ne_empty⟩
  have aF : ∀ b ∈ l.addrs, b ∉ [a] := fun b hb e => by
    simp only [List.mem_singleton] at e; subst e
    exact (List.nodup_cons.mp ndA).1 (List.mem_append_left _ hb)
  have aF2 : ∀ b ∈ (Loc.sub c r).addrs, b ∉ [a] := fun b hb e => by
    simp only [List.mem_singleton] at e; subst e
    exact (List.nodup_cons.mp ndA).1 (List.mem_append_right _ hb)
  have rl2 := rl.step St1 aF
  have adC : ∀ b ∈ c.addrs, b ∉ [a] := fun b hb => aF2 b (List.mem_append_right _ hb)
  have adR : ∀ b ∈ r.addrs, b ∉ [a] := fun b hb => aF2 b (List.mem_append_left _ hb)
  have rz2 := rz.step St1 adC
  have rr2 := rr.step St1 adR
  have ca2 : Cell z _ a k v l.ptr r.ptr (.ref c.par) c.prev := ⟨ad, akt, vt, az, adz, ag2, k1 _ _ (ks₁ _ _ agd) (Nat.ne_of_lt (lt agd)) (nDict ag agd)⟩
  have ns2 := F1.ns
  have S2 : g0.StaysIn _ := fun b o e => F1.keep b o (Sg b o e)
  clear uns hu eb ep er X T F1 N1 hr Sg
  have memC : ∀ b ∈ a :: (r.addrs ++ c.addrs), b ∈ a :: (l.addrs ++ (Loc.sub c r).addrs) := fun b hb => by
    rcases List.mem_cons.mp hb with rfl | hb
    · exact .head _
    · exact .tail _ (List.mem_append_right _ hb)
  have ndc : (a :: (r.addrs ++ c.addrs)).Nodup := List.nodup_cons.mpr ⟨fun h => (List.nodup_cons.mp ndA).1 (List.mem_append_right _ h), (List.nodup_append.mp (List.nodup_cons.mp ndA).2).2.1⟩
  refine wpAny_call ?_
  refine cut_spec (c := c) (l := l) (r := r) G ?kS ?kd rz2 ca2 rr2 ndc ?kR
  case kS => exact S2
  case kd => show dp + 1 + 10 < recursionLimit; first | exact room_le (d := dp) (b := 11) hdp (by decide) | omega
  case kR =>
  intro h3 tk3 St3 rz3 rr3 ca3
  have zlt : ∀ {b : Nat}, b < z → b ∉ a :: (r.addrs ++ c.addrs) := fun hb hm => Nat.lt_irrefl _ (Nat.lt_of_lt_of_le hb (trZ _ (memA _ (memC _ hm))))
  have nL2 : L ∉ a :: (r.addrs ++ c.addrs) := fun hm => by
    rcases List.mem_cons.mp hm with q | hm
    · exact ns_notNode ns2 ca2 q.symm
    · rcases List.mem_append.mp hm with hm | hm
      · obtain ⟨_, _, _, _, _, _, cc⟩ := rr2.cell L hm
        exact ns_notNode ns2 cc rfl
      · obtain ⟨_, _, _, _, _, _, cc⟩ := rz2.cell L hm
        exact ns_notNode ns2 cc rfl
  have ns3 := ns_step ns2 St3 nL2
  have S3 := staysStep S2 St3 G.sz (fun b hb => trZ b (memA _ (memC _ hb)))
  have rl3 := rl2.step St3 (fun b hb hm => by
    rcases List.mem_cons.mp hm with rfl | hm
    · exact (List.nodup_cons.mp ndA).1 (List.mem_append_left _ hb)
    · exact (List.nodup_append.mp (List.nodup_cons.mp ndA).2).2.2 b hb b hm rfl)
  have tT3 : TopC z h3 (c.fill r) := topC_fill.mpr ⟨rz3, rr3⟩
  have uT3 : TopC z h3 ⟨a, k, v, l⟩ := ⟨.none, .none, .none, ca3, rl3⟩
  have hH3 := St3.keep _ _ hH2 (zlt zH)
  have hI3 := St3.keep _ _ hI2 (zlt zI)
  have IL := Nat.ne_of_lt (lt hI)
  have HL := Nat.ne_of_lt (lt hH)
  have htl3 : ∀ p ∈ [(H, instObj 201 I), (I, hdict q1 q2 u1 u2 D (.ref c.ra))], h3.get? p.1 = some p.2 := all2 hH3 hI3
  obtain ⟨g, rest, F, N, Sg, _, _, _, uns⟩ := focus S3 hLz ns3 [(H, instObj 201 I), (I, hdict q1 q2 u1 u2 D (.ref c.ra))] htl3 (all2 HL IL) (all2 g0H g0I)
  have X := G.X.keeps Sg
  have T := G.T.keeps Sg
  simp only [List.cons_append, List.nil_append] at N
  dsimp only
  with_reducible show wpAny _ _ _ _ _ _
  k_fold
  k_steps
  unfold Hold
  with_reducible rename Fr _ _ _ _ => F1
  with_reducible rename News _ _ _ _ => N1
  have hu3 := keepAll (uns _ _ F1 (newsTail (newsTail N1))) N1 htl3
  have nLa := ns_notEmpty ns3 (x := Str.ofString "self") (by rfl)
  have Sx := stepOf (z := z) (l := []) nLa hu3 (by simp)
  have t1T := tT3.stepL ns3 Sx (by simp)
  have uT := uT3.stepL ns3 Sx (by simp)
  have pX : ((c.fill r).addrs ++ (⟨a, k, v, l⟩ : Tp).addrs).Perm (a :: (l.addrs ++ (Loc.sub c r).addrs)) := by
    refine (List.Perm.append_right _ (Zp.fill_addrs c r)).trans ?_
    refine List.perm_append_comm.trans ?_
    simp [Tp.addrs, Loc.addrs]
  have ndu := pX.nodup_iff.mpr ndA
  have S4 : g0.StaysIn _ := fun b o e => F1.keep b o (Sg b o e)
  have ns4 := F1.ns
  have hH4 := hu3 _ _ hH3 HL (by simp)
  have hI4 := hu3 _ _ hI3 IL (by simp)
  clear uns X T F1 N1 Sg
  refine wpAny_call ?_
  refine link_spec2 (t := c.fill r) (u := ⟨a, k, v, l⟩) G (Zp.fill_a c r).symm rfl ?lS ?ld t1T uT ndu ?lR
  case lS => exact S4
  case ld => show dp + 1 + 10 < recursionLimit; first | exact room_le (d := dp) (b := 11) hdp (by decide) | omega
  case lR =>
  intro h5 tk5 St5 T5
  have perm5 := linkT_items (c.fill r) ⟨a, k, v, l⟩
  have ord5 := linkT_ord (t := c.fill r) (u := ⟨a, k, v, l⟩) ((Zp.fill_ord c r).mpr ⟨ord'.2.1, ord'.2.2.2⟩) (B.ge_mono (Int.le_of_lt hv) ord'.1)
  generalize linkT (c.fill r) ⟨a, k, v, l⟩ = t' at *
  have nX : ∀ {b : Nat}, b < z → b ∉ (c.fill r).addrs ++ (⟨a, k, v, l⟩ : Tp).addrs := fun hb hm => Nat.lt_irrefl _ (Nat.lt_of_lt_of_le hb (trZ _ (memA _ (pX.mem_iff.mp hm))))
  have nLX : L ∉ (c.fill r).addrs ++ (⟨a, k, v, l⟩ : Tp).addrs := fun hm => (List.mem_append.mp hm).elim (topC_L t1T ns4) (topC_L uT ns4)
  have ns5 := ns_step ns4 St5 nLX
  have S5 := staysStep S4 St5 G.sz (fun b hm => trZ _ (memA _ (pX.mem_iff.mp hm)))
  have hH5 := St5.keep _ _ hH4 (nX zH)
  have hI5 := St5.keep _ _ hI4 (nX zI)
  obtain ⟨g, rest, F, N, Sg, hne, _, _, uns⟩ := focus S5 hLz ns5 [(H, instObj 201 I), (I, hdict q1 q2 u1 u2 D (.ref c.ra))] (all2 hH5 hI5) (all2 HL IL) (all2 g0H g0I)
  have X := G.X.keeps Sg
  have T := G.T.keeps Sg
  have hr := hne _ (.tail _ (.head _))
  dsimp only at hr
  simp only [List.cons_append, List.nil_append] at N
  dsimp only
  with_reducible show wpAny _ _ _ _ _ _
  k_fold
  k_steps
  with_reducible rename Fr _ _ _ _ => F1
  with_reducible rename News _ _ _ _ => N1
  have hu := uns _ _ F1 (newsTail (newsTail N1))
  have hH6 := news_get N1 (.head _)
  have hI6 := news_get N1 (.tail _ (.head _))
  have k6 := keepSet (P := fun b => b = I) hu (by
    simp only [List.map_cons, List.map_nil]
    exact all2 (.inr ⟨_, hH5, hH6⟩) (.inl rfl))
  have nL5 := ns_notEmpty ns5 (x := Str.ofString "self") (by rfl)
  have StF : Step z (I :: ((Loc.sub c r).fill a k v0 l).addrs) s.heap _ := ⟨fun b o e n => by
    simp only [List.mem_cons, not_or] at n
    have hba : b ∉ a :: (l.addrs ++ (Loc.sub c r).addrs) := fun q => n.2 (memA _ q)
    exact k6 b o (St5.keep b o (hu3 b o (St3.keep b o (St1.keep b o e (by
      simp only [List.mem_singleton]; rintro rfl; exact hba (.head _))) (fun q => hba (memC _ q))) (Nat.ne_of_lt (lt e)) (by simp)) (fun q => hba (pX.mem_iff.mp q))) (Nat.ne_of_lt (lt e)) n.1, onlyF⟩
  have pF : t'.items.Perm ((a, k, v) :: (l.items ++ (Loc.sub c r).items)) := by
    refine perm5.trans ((List.Perm.append_right _ (Zp.fill_items c r)).trans (List.perm_append_comm.trans ?_))
    simp [Tp.items, Loc.items]
  refine hR _ _ t' StF (hs0.tree StF (fun b hb => (List.mem_cons.mp hb).imp id (trZ b)) ⟨q1, q2, u1, u2, hI6⟩ (TopC.step T5 (F := [L, I]) ⟨fun b o e n => k6 b o e (by simp only [List.mem_cons, not_or] at n; exact n.1) (by simp only [List.mem_cons, not_or] at n; exact n.2.1), ?_⟩ ?_) ord5 ⟨a, k, v0, v, _, Loc.fill_items (Loc.sub c r) a k v0 l, pF⟩) pF
  · simp only [List.mem_cons, List.not_mem_nil, or_false, forall_eq_or_imp, forall_eq]
    exact ⟨fun _ => nL5, fun hz => absurd hz (Nat.not_le.mpr zI)⟩
  · intro b hb
    simp only [List.mem_cons, List.not_mem_nil, or_false, not_or]
    exact ⟨fun q => topC_L T5 ns5 (q ▸ hb), fun q => Nat.lt_irrefl _ (Nat.lt_of_lt_of_le zI (q ▸ T5.le b hb))⟩

end
end
end
end
section
open PySem PySem.W PyProof.Rows PySem.Calls
section
open PySem PySem.W PyProof.Rows PySem.Calls
section
example : True := by
  w_top off
  k_with_none
  k_with "eval Name" => (k_here; k_dflt (refine' nameX_L ?F ?v ?_ ?a ?b; (case F => k_asm); (case a => exact Eq.refl _); (case b => exact Eq.refl (some NameKind.local)); (case v => exact Eq.refl (some _)); k_whole))
  k_with "k_ne" => (refine neN ?_; (try dsimp only); first | assumption | (apply Ne.symm; assumption))
  k_with "k_inst" => (first | (refine' instR ?F ?N ?h1 ?hd ?hs; (case F => k_asm); (case N => k_asm); (case h1 => k_mem); (case hd => assumption); (case hs => (intro p9 h9; repeat (first | exact h9 | refine List.Mem.tail _ ?_)))) | fail "instR")
  k_with "k_all" => (first | assumption | exact allNe4 (by assumption) (by assumption) | fail "k_all")
  k_with "k_handed" => (assumption)
  k_with "call ref" => (with_reducible show wpAny _ _ (PySem.call (Value.ref 184) _ _) _ _ _; refine Hold.mk ?_)
  k_with "call ref" => (with_reducible show wpAny _ _ (PySem.call (Value.ref 191) _ _) _ _ _; refine Hold.mk ?_)
  k_with "call ref" => (with_reducible show wpAny _ _ (PySem.call (Value.ref 198) _ _) _ _ _; refine Hold.mk ?_)
  k_with "getMethod ref" => (k_here; k_dflt (refine' kdg_method (knd := PySem.intKind _ _) ?N ?hp ?hd ?_; (case N => k_asm); (case hp => k_mem); (case hd => assumption); k_whole))
  k_with "call builtin:dict.get" => (k_here; k_dflt (refine' kdg_get1 (knd := PySem.intKind _ _) ?N ?hp ?hd ?lo (intKind_is _ _ _ _) _ ?hl ?_; (case N => k_asm); (case hp => k_mem); (case hd => assumption); (case lo => assumption); (case hl => assumption); k_whole); (try dsimp only [Option.getD]))
  k_with "k_room" => (((try simp only [depth_under_make, depth_under_kw, depth_in1, depth_deeper, depth_caller]); (try dsimp only); omega))
  k_with "setItem ref int" => (with_reducible show wpAny _ _ (PySem.setItem (Value.ref _) (Value.int _ _) _) _ _ _; refine Hold.mk ?_)
  k_with "k_room" => ((try simp only [depth_under_make, depth_under_kw, depth_in1, depth_deeper, depth_caller, depth_mark]); (try dsimp only); first | exact room_le (b := 1) (by assumption) (by decide) | exact room_le (b := 2) (by assumption) (by decide) | exact room_le (b := 3) (by assumption) (by decide) | exact room_le (b := 4) (by assumption) (by decide))
  trivial
set_option maxRecDepth 100000
set_option maxHeartbeats 8000000
set_option pp.maxSteps 600
theorem allNe4 {a1 a2 a3 a4 : Prop} {d x : Nat} {l : List (Addr × Obj)} (h : a1 ∧ a2 ∧ a3 ∧ a4 ∧ AllLt d l) (hx : @LT.lt Nat _ d x) : ∀ p ∈ l, p.1 ≠ x := by
  obtain ⟨_, _, _, _, h⟩ := h
  induction l with
  | nil => intro p hp; cases hp
  | cons q r ih =>
    intro p hp
    rcases List.mem_cons.mp hp with rfl | hp
    · exact Nat.ne_of_lt (Nat.lt_trans h.1 hx)
    · exact ih h.2 p hp


theorem stored_new {kvs : List (Int × Value)} {k : Int} {v : Value} (h : valueAt kvs k = none) : stored kvs k v = kvs ++ [(k, v)] := by
  unfold stored
  rw [if_neg]
  intro q
  rw [List.any_eq_true] at q
  obtain ⟨p, hp, e⟩ := q
  unfold valueAt at h
  rw [Option.map_eq_none_iff, List.find?_eq_none] at h
  exact h p hp e
section
variable {w : World} {dp un : Nat} {gd : Option (List Code)} {outer : List Env} {mean : ExcName → Option Value} {mg mb : Str → Option Value} {g0 base : Heap} {z : Nat} {R : Result → Shared → Prop} {s : Shared} {self : Value}
theorem insert_new {H I D y : Nat} {oy : Obj} {t : Option Tp} {k v : Int} {kt vt : Tok} {kvs : List (Int × Value)} {up : Bool} (G : Gd w mean mg mb g0 z) (S₀ : g0.StaysIn s.heap) (hdp : dp + 40 < recursionLimit) (hun : un + 400 < cLine)
    (B₀ : Below (Ar dp un gd outer) base outer g0)
    (hsz : g0.objs.size ≤ s.heap.objs.size) (g0H : g0.get? H = none) (g0I : g0.get? I = none) (g0D : g0.get? D = none) (g0y : g0.get? y = none)
    (hy : s.heap.get? y = some oy) (yz : z ≤ y + 1) (yH : @Ne Nat y H) (yI : @Ne Nat y I) (yD : @Ne Nat y D)
    (hs : HS Challenge.rw_bf0021_01.row.prog w z s.heap H I D t kvs) (hlen : kvs.length ≤ 99)
    (hk : valueAt kvs k = none)
    (hR : ∀ h' tk t' x, Step z (I :: D :: taddrs t) s.heap h' → HS Challenge.rw_bf0021_01.row.prog w z h' H I D (some t') (kvs ++ [(k, .ref x)]) → t'.items.Perm ((x, k, v) :: titems t) → s.heap.get? x = none → z ≤ x → R (.ok (.ret (.bool true))) { s with heap := h', toks := tk }) :
    codeAny (model Challenge.rw_bf0021_01.row.prog w) (Ar dp un gd outer) (.call (.ref 177) ⟨[.ref H, .int k kt, .int v vt, .bool up], []⟩) R s := by
  have XS := G.X.keeps S₀
  have TS := G.T.keeps S₀
  k_dflt (refine' enterF XS TS.nolimit ?k1 ?k2 ?k3 ?k4 ?k5 ?k6 ?c1 ?c2 ?c3 ?c4;
          (case k1 => k_is);
          (case k2 => k_is);
          (case k3 => simp only []; omega);
          (case k4 => first | exact BindsTo.of_eq rfl | exact binds_K (by k_in) rfl (by k_is) rfl rfl rfl);
          (case k5 => exact locs rfl);
          (case c1 => exact rfl);
          (case c2 => exact rfl);
          (case c3 => exact rfl);
          (case c4 => decide))
  intro L h₁ tk₁ ns₁ hL ks₁
  have hLz : g0.objs.size ≤ L := Nat.le_trans hsz hL
  have lt : ∀ {b o}, s.heap.get? b = some o → b < L := fun e => Nat.lt_of_lt_of_le (Heap.lt_size e) hL
  have h0n : ∀ {b : Nat}, z ≤ b → g0.get? b = none := fun {b} hb => by
    cases e : g0.get? b with
    | none => rfl
    | some o => exact absurd (Nat.lt_of_lt_of_le (Heap.lt_size e) G.sz) (Nat.not_lt.mpr hb)
  have hs0 := hs
  obtain ⟨hH, ⟨q1, q2, u1, u2, hI⟩, ⟨oD, hD, hDo⟩, lo, hID, hHD, zH, zI, zD, tr, ord, nd, keys, small⟩ := hs
  have hHI : @Ne Nat H I := fun e => by rw [← e, hH] at hI; cases hI
  have hID' : @Ne Nat I D := hID
  have hHD' : @Ne Nat H D := hHD
  have ht : handedIn (tptr t) = true := by cases t <;> rfl
  have htl : ∀ p ∈ [(H, instObj 201 I), (I, hdict q1 q2 u1 u2 D (tptr t)), (D, oD), (y, oy)], h₁.get? p.1 = some p.2 :=
    all4 (ks₁ _ _ hH) (ks₁ _ _ hI) (ks₁ _ _ hD) (ks₁ _ _ hy)
  obtain ⟨g, rest, F, N, Sg, hne, kg, _, uns⟩ := focus (fun b o e => ks₁ b o (S₀ b o e)) hLz ns₁ [(H, instObj 201 I), (I, hdict q1 q2 u1 u2 D (tptr t)), (D, oD), (y, oy)]
    htl (all4 (Nat.ne_of_lt (lt hH)) (Nat.ne_of_lt (lt hI)) (Nat.ne_of_lt (lt hD)) (Nat.ne_of_lt (lt hy))) (all4 g0H g0I g0D g0y)
  have X := G.X.keeps Sg
  have T := G.T.keeps Sg
  have B : Below (Ar dp un gd outer) base outer g := ⟨B₀.stack, fun b o e => Sg b o (B₀.stays b o e), B₀.frames.of_keeps fun b o e _ => ⟨o, Sg b o e, rfl⟩⟩
  have hrD := hne _ (.tail _ (.tail _ (.head _)))
  dsimp only at hrD
  simp only [List.cons_append, List.nil_append] at N
  clear hne
  (try dsimp only)
  with_reducible show wpAny _ _ _ _ _ _
  k_fold
  k_steps
  unfold Hold
  with_reducible rename Fr _ _ _ _ => F1
  with_reducible rename News _ _ _ _ => N1
  k_dflt (refine' kda_set (knd := PySem.intKind _ _) F1 N1 ?kU hDo (intKind_is _ _ _ _) ?kz ?kR)
  case kz => rw [sizeLine_eq]; omega
  case kU => k_updF
  case kR =>
  intro h3 oD' F3 N3 hDo'
  rename_i x d _ l1d l2d _ _ _ _ _ _ _ _ _ _ _ _ _ _ _ _ _ _ _ _ _ _ _ _ _ _ _ _ _ _ _ _ _ _ _ _
  have hx3 := news_get N3 (.tail _ (.tail _ (.head _)))
  have hd3 := news_get N3 (.tail _ (.tail _ (.tail _ (.head _))))
  have hH3 := news_get N3 (.tail _ (.tail _ (.tail _ (.tail _ (.head _)))))
  have hI3 := news_get N3 (.tail _ (.tail _ (.tail _ (.tail _ (.tail _ (.head _))))))
  have hD3 := news_get N3 (.tail _ (.tail _ (.tail _ (.tail _ (.tail _ (.tail _ (.head _)))))))
  have hy3 := news_get N3 (.tail _ (.tail _ (.tail _ (.tail _ (.tail _ (.tail _ (.tail _ (.head _))))))))
  have xL := (N3 _ (.tail _ (.tail _ (.head _)))).2.1
  have gx := (N3 _ (.tail _ (.tail _ (.head _)))).2.2
  dsimp only at hx3 hd3 hH3 hI3 hD3 hy3 xL gx
  have dz : z ≤ d := by have := l1d.2.2.2.1; omega
  have xz : z ≤ x := by have : @LT.lt Nat _ d x := l2d; omega
  have xnew : s.heap.get? x = none := by
    cases e : s.heap.get? x with
    | none => rfl
    | some o =>
      exfalso
      have h1 := kg x o (ks₁ _ _ e) (lt e) (by
        simp only [List.map_cons, List.map_nil, List.mem_cons, List.not_mem_nil, or_false, not_or]
        have : @LT.lt Nat _ d x := l2d
        have q1 := l1d.1
        have q2 := l1d.2.1
        have q3 := l1d.2.2.1
        have q4 := l1d.2.2.2.1
        exact ⟨Nat.ne_of_gt (Nat.lt_trans q1 this), Nat.ne_of_gt (Nat.lt_trans q2 this), Nat.ne_of_gt (Nat.lt_trans q3 this), Nat.ne_of_gt (Nat.lt_trans q4 this)⟩)
      rw [gx] at h1; cases h1
  have hu3 := uns _ _ F3 (newsTail (newsTail (newsTail (newsTail (newsTail (newsTail (newsTail (newsTail N3))))))))
  have k3 := keepSet (P := fun b => b = D) hu3 (by
    simp only [List.map_cons, List.map_nil]
    exact all4 (.inr ⟨_, ks₁ _ _ hH, hH3⟩) (.inr ⟨_, ks₁ _ _ hI, hI3⟩) (.inl rfl) (.inr ⟨_, ks₁ _ _ hy, hy3⟩))
  have St1 : Step z [D] s.heap h3 := ⟨fun b o e n => k3 b o (ks₁ _ _ e) (Nat.ne_of_lt (lt e)) (by simpa using n), by simp only [List.mem_singleton, forall_eq]; intro q; exact absurd q (Nat.not_le.mpr zD)⟩
  have ns3 := F3.ns
  have S3 : g0.StaysIn h3 := fun b o e => F3.keep b o (Sg b o e)
  have uT3 : TopC z h3 ⟨x, k, v, .nil⟩ := ⟨.none, .none, .none, ⟨d, kt, vt, xz, dz, hx3, hd3⟩, trivial⟩
  have IL := Nat.ne_of_lt (lt hI)
  have HL := Nat.ne_of_lt (lt hH)
  have DL := Nat.ne_of_lt (lt hD)
  rw [stored_new hk] at hDo'
  clear N3 N1 F1 uns hu3 X T B Sg kg hrD qk ek
  clear l1d l2d
  cases t with
  | none =>
    dsimp only [tptr] at *
    obtain ⟨g, rest, F, N, Sg, hne, _, _, uns⟩ := focus S3 hLz ns3 [(H, instObj 201 I), (I, hdict q1 q2 u1 u2 D .none)] (all2 hH3 hI3) (all2 HL IL) (all2 g0H g0I)
    have X := G.X.keeps Sg
    have T := G.T.keeps Sg
    have hr := hne _ (.tail _ (.head _))
    dsimp only at hr
    simp only [List.cons_append, List.nil_append] at N
    (try dsimp only)
    with_reducible show wpAny _ _ _ _ _ _
    k_fold
    k_steps
    with_reducible rename Fr _ _ _ _ => F1
    with_reducible rename News _ _ _ _ => N1
    have hu := uns _ _ F1 (newsTail (newsTail N1))
    have hH6 := news_get N1 (.head _)
    have hI6 := news_get N1 (.tail _ (.head _))
    have k6 := keepSet (P := fun b => b = I) hu (by
      simp only [List.map_cons, List.map_nil]
      exact all2 (.inr ⟨_, hH3, hH6⟩) (.inl rfl))
    have nL5 := ns_notEmpty ns3 (x := Str.ofString "self") (by rfl)
    have StF : Step z (I :: D :: taddrs none) s.heap _ := ⟨fun b o e n => by
      simp only [taddrs, List.mem_cons, List.not_mem_nil, or_false, not_or] at n
      exact k6 b o (St1.keep b o e (by simpa using n.2)) (Nat.ne_of_lt (lt e)) n.1, by
      simp only [taddrs, List.mem_cons, List.not_mem_nil, or_false]
      rintro b (rfl | rfl) q
      · exact absurd q (Nat.not_le.mpr zI)
      · exact absurd q (Nat.not_le.mpr zD)⟩
    have uT6 : TopC z _ ⟨x, k, v, .nil⟩ := TopC.step uT3 (F := [L, I]) ⟨fun b o e n => k6 b o e (by simp only [List.mem_cons, not_or] at n; exact n.1) (by simp only [List.mem_cons, not_or] at n; exact n.2.1), by
      simp only [List.mem_cons, List.not_mem_nil, or_false, forall_eq_or_imp, forall_eq]
      exact ⟨fun _ => nL5, fun hz => absurd hz (Nat.not_le.mpr zI)⟩⟩ (by
      intro b hb
      simp only [List.mem_cons, List.not_mem_nil, or_false, not_or]
      exact ⟨fun q => topC_L uT3 ns3 (q ▸ hb), fun q => Nat.lt_irrefl _ (Nat.lt_of_lt_of_le zI (q ▸ uT3.le b hb))⟩)
    refine hR _ _ ⟨x, k, v, .nil⟩ x StF ⟨hH6, ⟨q1, q2, u1, u2, hI6⟩, ⟨oD', k6 _ _ hD3 DL (Ne.symm hID), hDo'⟩, lo, hID, hHD, zH, zI, zD, uT6, trivial, by simp [taddrs, Tp.addrs, B.addrs], ?_, by simp; omega⟩ (by simp [Tp.items, titems, B.items]) xnew xz
    have : kvs = [] := by simpa [titems] using keys
    subst this
    simp [titems, Tp.items, B.items]
  | some tp =>
    dsimp only [tptr] at *
    have trD : ∀ b ∈ tp.addrs, z ≤ b → s.heap.get? b ≠ some emptyDict := TopC.notDict tr
    have trZ : ∀ b ∈ tp.addrs, z ≤ b := TopC.le tr
    have nz : ∀ {b : Nat}, b < z → b ∉ tp.addrs := fun hb hm => Nat.lt_irrefl _ (Nat.lt_of_lt_of_le hb (trZ _ hm))
    have tT3 : TopC z h3 tp := TopC.step (show TopC z s.heap tp from tr) St1 (fun b hb => by simp only [List.mem_singleton]; rintro rfl; exact nz zD hb)
    have xt : x ∉ tp.addrs := fun hm => by
      obtain ⟨_, _, _, _, _, _, cc⟩ := TopC.cell tr x hm
      obtain ⟨_, _, _, _, _, e, _⟩ := cc
      rw [xnew] at e; cases e
    have htl3 : ∀ p ∈ [(H, instObj 201 I), (I, hdict q1 q2 u1 u2 D (.ref tp.a))], h3.get? p.1 = some p.2 := all2 hH3 hI3
    obtain ⟨g, rest, F, N, Sg, _, _, _, uns⟩ := focus S3 hLz ns3 [(H, instObj 201 I), (I, hdict q1 q2 u1 u2 D (.ref tp.a))] htl3 (all2 HL IL) (all2 g0H g0I)
    have X := G.X.keeps Sg
    have T := G.T.keeps Sg
    simp only [List.cons_append, List.nil_append] at N
    (try dsimp only)
    with_reducible show wpAny _ _ _ _ _ _
    k_fold
    k_steps
    unfold Hold
    with_reducible rename Fr _ _ _ _ => F1
    with_reducible rename News _ _ _ _ => N1
    have hu4 := keepAll (uns _ _ F1 (newsTail (newsTail N1))) N1 htl3
    have nLa := ns_notEmpty ns3 (x := Str.ofString "self") (by rfl)
    have Sx := stepOf (z := z) (l := []) nLa hu4 (by simp)
    have t1T := tT3.stepL ns3 Sx (by simp)
    have uT := uT3.stepL ns3 Sx (by simp)
    have ndu : (tp.addrs ++ (⟨x, k, v, .nil⟩ : Tp).addrs).Nodup := by
      simp only [Tp.addrs, B.addrs]
      refine List.nodup_append.mpr ⟨nd, by simp, ?_⟩
      intro b hb c hc e
      simp only [List.mem_singleton] at hc
      exact xt (hc ▸ e ▸ hb)
    have S4 : g0.StaysIn _ := fun b o e => F1.keep b o (Sg b o e)
    have ns4 := F1.ns
    have hH4 := hu4 _ _ hH3 HL (by simp)
    have hI4 := hu4 _ _ hI3 IL (by simp)
    have hD4 := hu4 _ _ hD3 DL (by simp)
    clear uns X T F1 N1 Sg
    refine wpAny_call ?_
    refine link_spec (t := tp) (u := ⟨x, k, v, .nil⟩) G ?lS ?ld t1T uT ndu ?lR
    case lS => exact S4
    case ld => show dp + 1 + 10 < recursionLimit; first | exact room_le (d := dp) (b := 11) hdp (by decide) | omega
    case lR =>
    intro h5 tk5 St5 T5
    have perm5 := linkT_items tp ⟨x, k, v, .nil⟩
    have perm5a := linkT_addrs tp ⟨x, k, v, .nil⟩
    have ord5 := linkT_ord (t := tp) (u := ⟨x, k, v, .nil⟩) ord trivial
    generalize linkT tp ⟨x, k, v, .nil⟩ = t' at *
    have xle : ∀ b ∈ tp.addrs ++ (⟨x, k, v, .nil⟩ : Tp).addrs, z ≤ b := fun b hb => (List.mem_append.mp hb).elim (trZ b) (uT.le b)
    have nX : ∀ {b : Nat}, b < z → b ∉ tp.addrs ++ (⟨x, k, v, .nil⟩ : Tp).addrs := fun hb hm => Nat.lt_irrefl _ (Nat.lt_of_lt_of_le hb (xle _ hm))
    have nLX : L ∉ tp.addrs ++ (⟨x, k, v, .nil⟩ : Tp).addrs := fun hm => (List.mem_append.mp hm).elim (topC_L t1T ns4) (topC_L uT ns4)
    have ns5 := ns_step ns4 St5 nLX
    have S5 := staysStep S4 St5 G.sz xle
    have hH5 := St5.keep _ _ hH4 (nX zH)
    have hI5 := St5.keep _ _ hI4 (nX zI)
    have hD5 := St5.keep _ _ hD4 (nX zD)
    obtain ⟨g, rest, F, N, Sg, hne, _, _, uns⟩ := focus S5 hLz ns5 [(H, instObj 201 I), (I, hdict q1 q2 u1 u2 D (.ref tp.a))] (all2 hH5 hI5) (all2 HL IL) (all2 g0H g0I)
    have X := G.X.keeps Sg
    have T := G.T.keeps Sg
    have hr := hne _ (.tail _ (.head _))
    dsimp only at hr
    simp only [List.cons_append, List.nil_append] at N
    (try dsimp only)
    with_reducible show wpAny _ _ _ _ _ _
    k_fold
    k_steps
    with_reducible rename Fr _ _ _ _ => F1
    with_reducible rename News _ _ _ _ => N1
    have hu := uns _ _ F1 (newsTail (newsTail N1))
    have hH6 := news_get N1 (.head _)
    have hI6 := news_get N1 (.tail _ (.head _))
    have k6 := keepSet (P := fun b => b = I) hu (by
      simp only [List.map_cons, List.map_nil]
      exact all2 (.inr ⟨_, hH5, hH6⟩) (.inl rfl))
    have nL5 := ns_notEmpty ns5 (x := Str.ofString "self") (by rfl)
    have StF : Step z (I :: D :: taddrs (some tp)) s.heap _ := ⟨fun b o e n => by
      simp only [taddrs, List.mem_cons, not_or] at n
      have hb : b ∉ tp.addrs ++ (⟨x, k, v, .nil⟩ : Tp).addrs := fun q => by
        rcases List.mem_append.mp q with q | q
        · exact n.2.2 q
        · simp only [Tp.addrs, B.addrs, List.mem_singleton] at q
          rw [q, xnew] at e; cases e
      exact k6 b o (St5.keep b o (hu4 b o (St1.keep b o e (by simpa using n.2.1)) (Nat.ne_of_lt (lt e)) (by simp)) hb) (Nat.ne_of_lt (lt e)) n.1, by
      simp only [taddrs, List.mem_cons]
      rintro b (rfl | rfl | hb) q
      · exact absurd q (Nat.not_le.mpr zI)
      · exact absurd q (Nat.not_le.mpr zD)
      · exact trD b hb q⟩
    have uT6 : TopC z _ t' := TopC.step T5 (F := [L, I]) ⟨fun b o e n => k6 b o e (by simp only [List.mem_cons, not_or] at n; exact n.1) (by simp only [List.mem_cons, not_or] at n; exact n.2.1), by
      simp only [List.mem_cons, List.not_mem_nil, or_false, forall_eq_or_imp, forall_eq]
      exact ⟨fun _ => nL5, fun hz => absurd hz (Nat.not_le.mpr zI)⟩⟩ (by
      intro b hb
      simp only [List.mem_cons, List.not_mem_nil, or_false, not_or]
      exact ⟨fun q => topC_L T5 ns5 (q ▸ hb), fun q => Nat.lt_irrefl _ (Nat.lt_of_lt_of_le zI (q ▸ T5.le b hb))⟩)
    have pF : t'.items.Perm ((x, k, v) :: titems (some tp)) := by
      refine perm5.trans (List.perm_append_comm.trans ?_)
      simp [Tp.items, titems, B.items]
    refine hR _ _ t' x StF ⟨hH6, ⟨q1, q2, u1, u2, hI6⟩, ⟨oD', k6 _ _ hD5 DL (Ne.symm hID), hDo'⟩, lo, hID, hHD, zH, zI, zD, uT6, ord5, perm5a.nodup_iff.mpr ndu, ?_, by simp; omega⟩ pF xnew xz
    refine List.Perm.trans ?_ (pF.map (fun p : Nat × Int × Int => (p.2.1, Value.ref p.1))).symm
    refine List.perm_append_comm.trans ?_
    exact List.Perm.cons _ keys

end
end
end
section
open PySem PySem.W PyProof.Rows PySem.Calls
section
theorem valueAt_iff {kvs : List (Int × Value)} (nd : (kvs.map (·.1)).Nodup) {k : Int} {v : Value} : valueAt kvs k = some v ↔ (k, v) ∈ kvs := by
  induction kvs with
  | nil => simp [valueAt]
  | cons p r ih =>
    obtain ⟨q, u⟩ := p
    simp only [List.map_cons, List.nodup_cons] at nd
    have ih := ih nd.2
    unfold valueAt at ih ⊢
    rw [List.find?_cons]
    by_cases e : q = k
    · subst e
      simp only [decide_true, Option.map_some, Option.some.injEq, List.mem_cons, Prod.mk.injEq, true_and]
      constructor
      · rintro rfl; exact .inl rfl
      · rintro (rfl | h)
        · rfl
        · exact absurd (List.mem_map_of_mem (f := (·.1)) h) nd.1
    · simp only [e, decide_false, List.mem_cons, Prod.mk.injEq]
      rw [ih]
      constructor
      · exact .inr
      · rintro (⟨rfl, _⟩ | h)
        · exact absurd rfl e
        · exact h
theorem valueAt_none {kvs : List (Int × Value)} {k : Int} : valueAt kvs k = none ↔ k ∉ kvs.map (·.1) := by
  unfold valueAt
  rw [Option.map_eq_none_iff, List.find?_eq_none]
  constructor
  · intro h q
    obtain ⟨p, hp, e⟩ := List.mem_map.mp q
    exact h p hp (by simpa using e)
  · intro h p hp e
    exact h (by rw [← (by simpa using e : p.1 = k)]; exact List.mem_map_of_mem hp)
theorem without_perm {kvs m : List (Int × Value)} {k : Int} {v : Value} (nd : (kvs.map (·.1)).Nodup) (h : kvs.Perm ((k, v) :: m)) : (without kvs k).Perm m := by
  have n2 := (h.map (·.1)).nodup_iff.mp nd
  simp only [List.map_cons, List.nodup_cons] at n2
  have h1 : (without kvs k).Perm (without ((k, v) :: m) k) := h.filter _
  have h2 : without ((k, v) :: m) k = without m k := by simp [without]
  rw [h2, without_of_not_mem m k n2.1] at h1
  exact h1
theorem keysNodup {prog : Program} {w : World} {o : Obj} {kvs : List (Int × Value)} (h : o.IsDictOf (intKind prog w) kvs) : (kvs.map (·.1)).Nodup := by obtain ⟨_, _, _, _, _, _, n⟩ := h; exact n

theorem TreeAt.step {z : Nat} {h h' : Heap} {F : List Nat} {t : Option Tp} (r : TreeAt z h t) (x : Step z F h h') (n : ∀ a ∈ taddrs t, a ∉ F) : TreeAt z h' t := by
  cases t with
  | none => trivial
  | some u => exact TopC.step r x n
theorem TreeAt.le {z : Nat} {h : Heap} {t : Option Tp} (r : TreeAt z h t) : ∀ a ∈ taddrs t, z ≤ a := by
  cases t with
  | none => intro a ha; simp [taddrs] at ha
  | some u => exact TopC.le r
theorem TreeAt.notL {z L : Nat} {h : Heap} {m : Str → Option Value} {t : Option Tp} (r : TreeAt z h t) (ns : h.Ns L m) : L ∉ taddrs t := by
  cases t with
  | none => simp [taddrs]
  | some u => exact topC_L r ns
theorem TreeAt.notDict {z : Nat} {h : Heap} {t : Option Tp} (r : TreeAt z h t) : ∀ a ∈ taddrs t, z ≤ a → h.get? a ≠ some emptyDict := by
  cases t with
  | none => intro a ha; simp [taddrs] at ha
  | some u => exact TopC.notDict r
theorem TreeAt.cell {z : Nat} {h : Heap} {t : Option Tp} (r : TreeAt z h t) : ∀ a ∈ taddrs t, ∃ k v l n p q, Cell z h a k v l n p q := by
  cases t with
  | none => intro a ha; simp [taddrs] at ha
  | some u => exact TopC.cell r
end
end
section
open PySem PySem.W PyProof.Rows PySem.Calls
section
example : True := by
  w_top off
  k_with_none
  k_with "eval Name" => (k_here; k_dflt (refine' nameX_L ?F ?v ?_ ?a ?b; (case F => k_asm); (case a => exact Eq.refl _); (case b => exact Eq.refl (some NameKind.local)); (case v => exact Eq.refl (some _)); k_whole))
  k_with "k_ne" => (refine neN ?_; (try dsimp only); first | assumption | (apply Ne.symm; assumption))
  k_with "k_inst" => (first | (refine' instR ?F ?N ?h1 ?hd ?hs; (case F => k_asm); (case N => k_asm); (case h1 => k_mem); (case hd => assumption); (case hs => (intro p9 h9; repeat (first | exact h9 | refine List.Mem.tail _ ?_)))) | fail "instR")
  k_with "k_all" => (first | assumption | fail "k_all")
  k_with "k_handed" => (assumption)
  k_with "call ref" => (with_reducible show wpAny _ _ (PySem.call (Value.ref 184) _ _) _ _ _; refine Hold.mk ?_)
  k_with "call ref" => (with_reducible show wpAny _ _ (PySem.call (Value.ref 191) _ _) _ _ _; refine Hold.mk ?_)
  k_with "call ref" => (with_reducible show wpAny _ _ (PySem.call (Value.ref 198) _ _) _ _ _; refine Hold.mk ?_)
  k_with "getMethod ref" => (k_here; k_dflt (refine' kdg_method (knd := PySem.intKind _ _) ?N ?hp ?hd ?_; (case N => k_asm); (case hp => k_mem); (case hd => assumption); k_whole))
  k_with "call builtin:dict.get" => (k_here; k_dflt (refine' kdg_get1 (knd := PySem.intKind _ _) ?N ?hp ?hd ?lo (intKind_is _ _ _ _) _ ?hl ?_; (case N => k_asm); (case hp => k_mem); (case hd => assumption); (case lo => assumption); (case hl => assumption); k_whole); (try dsimp only [Option.getD]))
  k_with "delItem ref int" => (k_here; k_dflt (refine' kob_del (knd := PySem.intKind _ _) ?F ?N ?U ?d (intKind_is _ _ _ _) ?l ?z ?_; (case F => k_asm); (case N => k_asm); (case U => k_updF); (case d => assumption); (case l => assumption); (case z => assumption)); intro _ _ _ _ _; (try k_sweep))
  k_with "k_room" => ((try simp only [depth_under_make, depth_under_kw, depth_in1, depth_deeper, depth_caller, depth_mark]); (try dsimp only); first | exact room_le (b := 1) (by assumption) (by decide) | exact room_le (b := 2) (by assumption) (by decide) | exact room_le (b := 3) (by assumption) (by decide) | exact room_le (b := 4) (by assumption) (by decide))
  trivial
set_option maxRecDepth 100000
set_option maxHeartbeats 8000000


section
variable {w : World} {dp un : Nat} {gd : Option (List Code)} {outer : List Env} {mean : ExcName → Option Value} {mg mb : Str → Option Value} {g0 base : Heap} {z : Nat} {R : Result → Shared → Prop} {s : Shared} {self : Value}
theorem merge_spec2 {a H I D : Nat} {k v : Int} {l : B} {nx pa pr rt : Value} {q1 q2 : Int} {u1 u2 : Tok} (G : Gd w mean mg mb g0 z) (S₀ : g0.StaysIn s.heap) (hdp : dp + 20 < recursionLimit)
    (hH : s.heap.get? H = some (instObj 201 I)) (hI : s.heap.get? I = some (hdict q1 q2 u1 u2 D rt)) (hsz : g0.objs.size ≤ s.heap.objs.size)
    (ha : Cell z s.heap a k v l.ptr nx pa pr) (hl : Rep z s.heap (.ref a) .none l) (nd : (a :: l.addrs).Nodup)
    (hR : ∀ h' tk t', Step z (a :: l.addrs) s.heap h' → Cell z h' a k v .none nx pa pr → TreeAt z h' t' → (titems t').Perm l.items → (∀ lo, l.ge lo → tord t') → R (.ok (.ret (tptr t'))) { s with heap := h', toks := tk }) :
    codeAny (model Challenge.rw_bf0021_01.row.prog w) (Ar dp un gd outer) (.call (.ref 191) ⟨[.ref H, .ref a], []⟩) R s :=
  merge_spec G S₀ hdp hH hI hsz ha hl nd
    (fun e h' tk x1 x2 => hR h' tk none x1 x2 trivial (by subst e; exact .refl _) (fun _ _ => trivial))
    (fun h' tk t x1 x2 x3 x4 x5 => hR h' tk (some t) x1 x2 x3 x4 x5)

theorem pop_spec {H I D : Nat} {tp : Tp} {kvs : List (Int × Value)} (G : Gd w mean mg mb g0 z) (S₀ : g0.StaysIn s.heap) (hdp : dp + 40 < recursionLimit)
    (hsz : g0.objs.size ≤ s.heap.objs.size) (g0H : g0.get? H = none) (g0I : g0.get? I = none) (g0D : g0.get? D = none)
    (hs : HS Challenge.rw_bf0021_01.row.prog w z s.heap H I D (some tp) kvs)
    (hR : ∀ h' tk t' q kt vt, Step z (I :: D :: tp.addrs) s.heap h' → HS Challenge.rw_bf0021_01.row.prog w z h' H I D t' (without kvs tp.k) → (titems t').Perm tp.l.items →
      h'.get? q = some { cls := .type "tuple", data := .seq #[.int tp.k kt, .int tp.v vt] } → g0.get? q = none → R (.ok (.ret (.ref q))) { s with heap := h', toks := tk }) :
    codeAny (model Challenge.rw_bf0021_01.row.prog w) (Ar dp un gd outer) (.call (.ref 161) ⟨[.ref H], []⟩) R s := by
  have XS := G.X.keeps S₀
  have TS := G.T.keeps S₀
  k_dflt (refine' enterF XS TS.nolimit ?k1 ?k2 ?k3 ?k4 ?k5 ?k6 ?c1 ?c2 ?c3 ?c4;
          (case k1 => k_is);
          (case k2 => k_is);
          (case k3 => simp only []; omega);
          (case k4 => first | exact BindsTo.of_eq rfl | exact binds_K (by k_in) rfl (by k_is) rfl rfl rfl);
          (case k5 => exact locs rfl);
          (case c1 => exact rfl);
          (case c2 => exact rfl);
          (case c3 => exact rfl);
          (case c4 => decide))
  intro L h₁ tk₁ ns₁ hL ks₁
  have hLz : g0.objs.size ≤ L := Nat.le_trans hsz hL
  have lt : ∀ {b o}, s.heap.get? b = some o → b < L := fun e => Nat.lt_of_lt_of_le (Heap.lt_size e) hL
  have h0n : ∀ {b : Nat}, z ≤ b → g0.get? b = none := fun {b} hb => by
    cases e : g0.get? b with
    | none => rfl
    | some o => exact absurd (Nat.lt_of_lt_of_le (Heap.lt_size e) G.sz) (Nat.not_lt.mpr hb)
  have hs0 := hs
  obtain ⟨hH, ⟨q1, q2, u1, u2, hI⟩, ⟨oD, hD, hDo⟩, lo, hID, hHD, zH, zI, zD, tr, ord, nd, keys, small⟩ := hs
  have hHI : @Ne Nat H I := fun e => by rw [← e, hH] at hI; cases hI
  have hID' : @Ne Nat I D := hID
  have hHD' : @Ne Nat H D := hHD
  simp only [tptr] at hI
  have trD : ∀ b ∈ tp.addrs, z ≤ b → s.heap.get? b ≠ some emptyDict := TopC.notDict tr
  have trZ : ∀ b ∈ tp.addrs, z ≤ b := TopC.le tr
  have IL := Nat.ne_of_lt (lt hI)
  have HL := Nat.ne_of_lt (lt hH)
  have DL := Nat.ne_of_lt (lt hD)
  obtain ⟨nx, pa, pr, ca, rl⟩ := tr
  have htl : ∀ p ∈ [(H, instObj 201 I), (I, hdict q1 q2 u1 u2 D (.ref tp.a))], h₁.get? p.1 = some p.2 := all2 (ks₁ _ _ hH) (ks₁ _ _ hI)
  obtain ⟨g, rest, F, N, Sg, _, _, _, uns⟩ := focus (fun b o e => ks₁ b o (S₀ b o e)) hLz ns₁ [(H, instObj 201 I), (I, hdict q1 q2 u1 u2 D (.ref tp.a))] htl (all2 HL IL) (all2 g0H g0I)
  have X := G.X.keeps Sg
  have T := G.T.keeps Sg
  simp only [List.cons_append, List.nil_append] at N
  (try dsimp only)
  with_reducible show wpAny _ _ _ _ _ _
  k_fold
  k_steps
  unfold Hold
  with_reducible rename Fr _ _ _ _ => F1
  with_reducible rename News _ _ _ _ => N1
  have hu1 := keepAll (uns _ _ F1 (newsTail (newsTail N1))) N1 htl
  have k1 : ∀ b o, s.heap.get? b = some o → _ := fun b o e => hu1 b o (ks₁ b o e) (Nat.ne_of_lt (lt e)) (by simp)
  have St1 : Step z [] s.heap _ := ⟨fun b o e _ => k1 b o e, by simp⟩
  have ca1 := ca.step St1 (by simp)
  have rl1 := rl.step St1 (by simp)
  have ns2 := F1.ns
  have S2 : g0.StaysIn _ := fun b o e => F1.keep b o (Sg b o e)
  have nd' : (tp.a :: tp.l.addrs).Nodup := nd
  clear uns X T F1 N1 Sg hu1
  refine wpAny_call ?_
  refine merge_spec2 (a := tp.a) (k := tp.k) (v := tp.v) (l := tp.l) (nx := nx) (pa := pa) (pr := pr) G ?kS ?kd (k1 _ _ hH) (k1 _ _ hI) ?kz ca1 rl1 nd' ?kR
  case kS => exact S2
  case kd => show dp + 1 + 20 < recursionLimit; first | exact room_le (d := dp) (b := 21) hdp (by decide) | omega
  case kz => exact Nat.le_trans hLz (Nat.le_of_lt ns2.lt)
  case kR =>
  intro h3 tk3 t' St3 ca3 tr3 pt ot
  have ot := ot _ ord
  have aL := ns_notNode ns2 ca1
  have zlt : ∀ {b : Nat}, b < z → b ∉ tp.a :: tp.l.addrs := fun hb hm => Nat.lt_irrefl _ (Nat.lt_of_lt_of_le hb (trZ _ hm))
  have nL2 : L ∉ tp.a :: tp.l.addrs := fun hm => by
    rcases List.mem_cons.mp hm with q | hm
    · exact aL q.symm
    · obtain ⟨_, _, _, _, _, _, c⟩ := rl1.cell L hm
      exact ns_notNode ns2 c rfl
  have ns3 := ns_step ns2 St3 nL2
  have S3 := staysStep S2 St3 G.sz trZ
  have hH3 := St3.keep _ _ (k1 _ _ hH) (zlt zH)
  have hI3 := St3.keep _ _ (k1 _ _ hI) (zlt zI)
  have hD3 := St3.keep _ _ (k1 _ _ hD) (zlt zD)
  obtain ⟨ad, akt, avt, az, adz, ag, agd⟩ := ca3
  have hkm : (tp.k, Value.ref tp.a) ∈ kvs := keys.mem_iff.mpr (by simp [titems, Tp.items])
  have hva : (valueAt kvs tp.k).isSome = true := by rw [(valueAt_iff (keysNodup hDo)).mpr hkm]; rfl
  have hszl : kvs.length ≤ sizeLine := by rw [sizeLine_eq]; omega
  have htl3 : ∀ p ∈ [(H, instObj 201 I), (I, hdict q1 q2 u1 u2 D (.ref tp.a)), (D, oD), (tp.a, nodeObj ad (.int tp.k akt) (.int tp.v avt) pr pa nx .none)], h3.get? p.1 = some p.2 := all4 hH3 hI3 hD3 ag
  obtain ⟨g, rest, F, N, Sg, hne, _, hgL, uns⟩ := focus S3 hLz ns3 [(H, instObj 201 I), (I, hdict q1 q2 u1 u2 D (.ref tp.a)), (D, oD), (tp.a, nodeObj ad (.int tp.k akt) (.int tp.v avt) pr pa nx .none)] htl3 (all4 HL IL DL aL) (all4 g0H g0I g0D (h0n az))
  have X := G.X.keeps Sg
  have T := G.T.keeps Sg
  have hrI := hne _ (.tail _ (.head _))
  have hrD := hne _ (.tail _ (.tail _ (.head _)))
  dsimp only at hrI hrD
  simp only [List.cons_append, List.nil_append] at N
  have nL3 := ns_notEmpty ns3 (x := Str.ofString "self") (by rfl)
  have nDz : ∀ {x : Nat}, x < z → ad ≠ x := fun hx e => Nat.lt_irrefl _ (Nat.lt_of_lt_of_le hx (e ▸ adz))
  have eb : ∀ h' m', Fr g L h' m' → News g L h' rest → h'.get? ad = some emptyDict := fun h' m' F' N' => uns h' m' F' N' ad _ agd (fun e => nL3 (e ▸ agd)) (by simpa using ⟨nDz zH, nDz zI, nDz zD, nDict ag agd⟩)
  (try dsimp only)
  with_reducible show wpAny _ _ _ _ _ _
  k_fold
  k_steps
  with_reducible rename Fr _ _ _ _ => F1
  with_reducible rename News _ _ _ _ => N1
  rename Obj.IsDictOf _ _ (without _ _) => hDo'
  have hu := uns _ _ F1 (newsTail (newsTail (newsTail (newsTail (newsTail N1)))))
  have hq6 := news_get N1 (.head _)
  have gq6 := noneOf Sg (N1 _ (.head _)).2.2
  have hH6 := news_get N1 (.tail _ (.head _))
  have hI6 := news_get N1 (.tail _ (.tail _ (.head _)))
  have hD6 := news_get N1 (.tail _ (.tail _ (.tail _ (.head _))))
  have ha6 := news_get N1 (.tail _ (.tail _ (.tail _ (.tail _ (.head _)))))
  have k6 := keepSet (P := fun b => b = I ∨ b = D) hu (by
    simp only [List.map_cons, List.map_nil]
    exact all4 (.inr ⟨_, hH3, hH6⟩) (.inl (.inl rfl)) (.inl (.inr rfl)) (.inr ⟨_, ag, ha6⟩))
  have StF : Step z (I :: D :: tp.addrs) s.heap _ := ⟨fun b o e n => by
    simp only [List.mem_cons, not_or] at n
    exact k6 b o (St3.keep b o (k1 b o e) n.2.2) (Nat.ne_of_lt (lt e)) (not_or.mpr ⟨n.1, n.2.1⟩), by
    simp only [List.mem_cons]
    rintro b (rfl | rfl | hb) q
    · exact absurd q (Nat.not_le.mpr zI)
    · exact absurd q (Nat.not_le.mpr zD)
    · exact trD b hb q⟩
  have Sx : Step z [L, I, D] h3 _ := ⟨fun b o e n => by
    simp only [List.mem_cons, List.not_mem_nil, or_false, not_or] at n
    exact k6 b o e n.1 (not_or.mpr ⟨n.2.1, n.2.2⟩), by
    simp only [List.mem_cons, List.not_mem_nil, or_false, forall_eq_or_imp, forall_eq]
    exact ⟨fun _ => nL3, fun q => absurd q (Nat.not_le.mpr zI), fun q => absurd q (Nat.not_le.mpr zD)⟩⟩
  have tr6 := tr3.step Sx (fun b hb => by
    simp only [List.mem_cons, List.not_mem_nil, or_false, not_or]
    exact ⟨fun q => tr3.notL ns3 (q ▸ hb), fun q => Nat.lt_irrefl _ (Nat.lt_of_lt_of_le zI (q ▸ tr3.le b hb)), fun q => Nat.lt_irrefl _ (Nat.lt_of_lt_of_le zD (q ▸ tr3.le b hb))⟩)
  have pw : (without kvs tp.k).Perm (tp.l.items.map fun p => (p.2.1, Value.ref p.1)) := without_perm (keysNodup hDo) (by simpa [titems, Tp.items] using keys)
  refine hR _ _ t' _ akt avt StF ⟨hH6, ⟨q1, q2, u1, u2, hI6⟩, ⟨_, hD6, hDo'⟩, lo, hID, hHD, zH, zI, zD, tr6, ot, ?_, pw.trans (pt.map _).symm, ?_⟩ pt hq6 gq6
  · rw [taddrs_items]
    refine (pt.map (·.1)).nodup_iff.mpr ?_
    rw [← B.addrs_items]
    exact (List.nodup_cons.mp nd').2
  · exact Nat.le_trans (List.length_filter_le _ _) small

end
end
end
section
open PySem PySem.W PyProof.Rows PySem.Calls
section
open PyProof.V
section
variable {prog : Program} {w : World} {A : Around} {E : Value → Shared → Prop} {s : Shared} {h₀ : Heap} {L : Addr} {m : Str → Option Value} {env : Env}

inductive DictSrc (prog : Program) (w : World) (A : Around) (h₀ : Heap) (L : Addr) (m : Str → Option Value) (env : Env) (elt : Expr) (x : Str) (scope : Scope) (cl : List (Str × Addr)) (Fin : Shared → List Value → List (Addr × Obj) → Prop) (xv : Value) (s₁ : Shared) : Prop
  | mk (d : Addr) (oE : Obj) (kvs : List (Int × Value)) (news : List (Addr × Obj)) (e : xv = .ref d) (hh : A.handled = none) (F : Fr h₀ L s₁.heap m) (N : News h₀ L s₁.heap news) (hm : (d, oE) ∈ news) (hd : oE.IsDictOf (intKind prog w) kvs) (lo : (d == sysModules) = false) (sz : kvs.length ≤ sizeLine)
    (R : ∀ s₂ : Shared, (∃ h, s₂ = { s₁ with heap := h }) → LCg.CompRest prog w A h₀ L m env elt x scope cl s₂ (fun nw => (d, oE) ∈ nw) (fun i v => ∃ k u, kvs[i]? = some (k, u) ∧ (intKind prog w).is k v = true) (Fin s₂) kvs.length 0 [] news)

theorem ListComp_K {elt iter : Expr} {x : Str} {px : Pos} {scope : Scope} {cl : List (Str × Addr)} {pos : Pos} {Q : Value → Shared → Prop} (F₀ : Fr h₀ L s.heap m)
    (hclos : closureFor scope env = pure cl) (hcell : ∀ y ∈ scope.names, y.2 ≠ .cell) (hkind : scope.kind = .function)
    (hnames : ∀ y ∈ scope.names, y.2 = .local → scope.names.lookup y.1 = some .local) (hx : scope.names.lookup x = some .local)
    (h : wpAny (model prog w) A (eval iter env) (DictSrc prog w A h₀ L m env elt x scope cl (fun s₂ => LCg.FinE h₀ L m s₂ Q)) E s)
    (hs : ∀ x, foldedSetIterable iter env x = pure x) :
    wpAny (model prog w) A (eval (.ListComp elt [⟨.Name x px, iter, [], 0⟩] scope pos) env) Q E s := by
  rw [eval_ListComp]
  refine wpAny_comprehension_free (use := none) rfl hs hclos hkind hnames (wpAny_mono h (fun xv s₁ h₁ => ?_) fun _ _ e => e)
  obtain ⟨d, oE, kvs, news, rfl, hh, F, N, hm, hd, lo, hsz, R⟩ := h₁
  obtain ⟨es, ep, ox, od, hk, hp, hn⟩ := hd
  have hat : s₁.heap.DictAt (intKind prog w) d kvs ep := ⟨oE, es, (N _ hm).1, ox, od, hk, hp, hn⟩
  have hlt : d < s₁.heap.objs.size := Heap.lt_size (N _ hm).1
  refine wpAny_pyIter_dict lo hat ?_
  have up : ∀ b o, s₁.heap.get? b = some o → (s₁.heap.push { cls := .type "dict_keyiterator", data := .fields #[.ref d, .int 0 0, .int kvs.length 0, .int ep 0] }).get? b = some o := fun b o e => Heap.get?_push_of_some _ e
  refine LCg.block_U (S := fun nw => (d, oE) ∈ nw) (Walks.dictKeys (knd := intKind prog w) hh s₁.heap.objs.size d (Nat.ne_of_lt hlt) kvs ep) hsz (fun i h st => by obtain ⟨o, e, _⟩ := st.1; exact ⟨o, e⟩)
    (fun i h h' o nw st e e' k N' S' => ⟨by obtain ⟨o', q, r⟩ := st.1; rw [e] at q; cases q; exact ⟨o, e', r⟩, ⟨oE, es, (N' _ S').1, ox, od, hk, hp, hn⟩⟩) hcell hkind hx ⟨⟨_, Heap.get?_push_size _ rfl, rfl, rfl⟩, hat.push _⟩ (fun b hb => ?_)
    (F.keeps up) (N.grown up) (Nat.ne_of_lt F.ns.lt) (next_is_new F) (fun p hp => Nat.ne_of_lt (Heap.lt_size (N p hp).1)) hm (R _ ⟨_, rfl⟩) ?_
  · show b < (s₁.heap.push _).objs.size
    rw [Heap.size_push]
    rcases List.mem_cons.mp hb with rfl | hb
    · exact Nat.lt_succ_self _
    · rw [List.mem_singleton.mp hb]; exact Nat.lt_succ_of_lt hlt
  · intro D C h tk m' ys news' F' N' o1 hn' hC₀ hD₀ hCL hDL hCD offC fin
    refine ⟨m', hn', fun h'' hs'' => fin D h'' tk (F'.change hs'' hCL hC₀) (fun p hp => ?_) o1⟩
    refine ⟨hs''.extBut _ _ ?_ (N' p hp).1, (N' p hp).2⟩
    rcases List.mem_cons.mp hp with rfl | hp
    · exact Ne.symm hCD
    · exact offC p hp

theorem look_at {c : List (Int × Int)} (nd : (c.map (·.1)).Nodup) {k v : Int} (h : (k, v) ∈ c) : kdfHas c k = true ∧ kdfLook c k 0 = v := by
  refine ⟨List.any_eq_true.mpr ⟨_, h, by simp⟩, ?_⟩
  unfold kdfLook
  induction c with
  | nil => cases h
  | cons p r ih =>
    simp only [List.map_cons, List.nodup_cons] at nd
    rw [List.find?_cons]
    rcases List.mem_cons.mp h with e | h
    · subst e; simp
    · have ne : ¬ p.1 = k := fun e => nd.1 (e ▸ List.mem_map_of_mem (f := (·.1)) h)
      simp only [ne, decide_false]
      exact ih nd.2 h

theorem flat_get {hvs : List (Int × Value)} {c : List (Int × Int)} (hf : FlatPairs PyData.int hvs (kdfD c)) : hvs.length = c.length ∧ hvs.map (·.1) = c.map (·.1) := by
  induction c generalizing hvs with
  | nil => cases hf; exact ⟨rfl, rfl⟩
  | cons p r ih =>
    obtain ⟨k, v⟩ := p
    cases hf with
    | cons a b =>
      obtain ⟨e1, e2⟩ := ih b
      exact ⟨by simp [e1], by simp [e2]⟩

theorem rest_gen {elt : Expr} {x : Str} {scope : Scope} {cl : List (Str × Addr)} {hvs : List (Int × Value)} {c : List (Int × Int)} {S : List (Addr × Obj) → Prop} {Fin : List Value → List (Addr × Obj) → Prop} {news : List (Addr × Obj)}
    (hf : FlatPairs PyData.int hvs (kdfD c)) (nd : (c.map (·.1)).Nodup)
    (fin : ∀ ys, IntsAre ys (c.map (·.2)) → Fin ys news)
    (step : ∀ (k : Int) t I oI C oC D m₂ h tk ys (Rest : Value → List (Addr × Obj) → Prop) (E' : Value → Shared → Prop), kdfHas c k = true → LCg.NsObj oC m₂ → m₂ x = some (.int k t) → Fr h₀ L h m → News h₀ L h ((I, oI) :: (C, oC) :: (D, LCg.lst ys) :: news) → LCg.Off3 I C D news → ((@Ne Nat I C) ∧ (@Ne Nat I D) ∧ (@Ne Nat C D)) →
      (∀ t', Rest (.int (kdfLook c k 0) t') news) →
      wpAny (model prog w) A (eval elt (compEnvC scope cl C env)) (LCg.CompEnd h₀ L m { s with heap := h, toks := tk } I oI C oC D (LCg.lst ys) S Rest) E' { s with heap := h, toks := tk }) :
    LCg.CompRest prog w A h₀ L m env elt x scope cl s S (fun i v => ∃ k u, hvs[i]? = some (k, u) ∧ (intKind prog w).is k v = true) Fin hvs.length 0 [] news := by
  obtain ⟨hlen, hkeys⟩ := flat_get hf
  have go : ∀ j i ys, i + j = hvs.length → IntsAre ys ((c.take i).map (·.2)) → LCg.CompRest prog w A h₀ L m env elt x scope cl s S (fun i v => ∃ k u, hvs[i]? = some (k, u) ∧ (intKind prog w).is k v = true) Fin j i ys news := by
    intro j
    induction j with
    | zero =>
      intro i ys hi hy
      refine LCg.CompRest.zero (fin ys ?_)
      rwa [List.take_of_length_le (by omega)] at hy
    | succ j ih =>
      intro i ys hi hy
      refine LCg.CompRest.succ ?_
      rintro v I oI C oC D m₂ h tk E' ⟨k, u, hku, hv⟩ hoC hmx F N off ne
      obtain ⟨t, rfl⟩ := Value.isInt_shape hv
      have hil : i < c.length := by omega
      have hck : (c[i]).1 = k := by
        have e1 : (hvs.map (·.1))[i]? = some k := by rw [List.getElem?_map, hku]; rfl
        rw [hkeys, List.getElem?_map, List.getElem?_eq_getElem hil] at e1
        exact Option.some.inj e1
      have hmem : (k, (c[i]).2) ∈ c := by rw [← hck]; exact List.getElem_mem hil
      obtain ⟨hh, hl⟩ := look_at nd hmem
      refine step k t I oI C oC D m₂ h tk ys _ E' hh hoC hmx F N off ne fun t' => ?_
      refine ih (i + 1) _ (by omega) ?_
      rw [List.take_add_one, List.getElem?_eq_getElem hil, List.map_append]
      rw [hl]
      exact IntsAre.append hy (IntsAre.cons _ _ IntsAre.nil)
  exact go hvs.length 0 [] (by omega) IntsAre.nil
end
end
end
section
open PySem PySem.W PyProof.Rows PySem.Calls
section
open PySem PySem.W PyProof.Rows PySem.Calls
section
example : True := by
  w_top off
  k_with_none
  k_with "eval Name" => (k_here; k_dflt (refine' nameX_L ?F ?v ?_ ?a ?b; (case F => k_asm); (case a => exact Eq.refl _); (case b => exact Eq.refl (some NameKind.local)); (case v => exact Eq.refl (some _)); k_whole))
  k_with "k_ne" => (refine neN ?_; (try dsimp only); first | assumption | (apply Ne.symm; assumption))
  k_with "k_inst" => (first | (refine' instR ?F ?N ?h1 ?hd ?hs; (case F => k_asm); (case N => k_asm); (case h1 => k_mem); (case hd => assumption); (case hs => (intro p9 h9; repeat (first | exact h9 | refine List.Mem.tail _ ?_)))) | fail "instR")
  k_with "k_all" => (first | assumption | fail "k_all")
  k_with "k_handed" => (assumption)
  k_with "getMethod ref" => (k_here; k_dflt (refine' kdg_method (knd := PySem.intKind _ _) ?N ?hp ?hd ?_; (case N => k_asm); (case hp => k_mem); (case hd => assumption); k_whole))
  k_with "call builtin:dict.get" => (k_here; k_dflt (refine' kdg_get1 (knd := PySem.intKind _ _) ?N ?hp ?hd ?lo (intKind_is _ _ _ _) _ ?hl ?_; (case N => k_asm); (case hp => k_mem); (case hd => assumption); (case lo => assumption); (case hl => assumption); k_whole); (try dsimp only [Option.getD]))
  k_with "call ref" => (with_reducible show wpAny _ _ (PySem.call (Value.ref 161) _ _) _ _ _; refine Hold.mk ?_)
  k_with "eval ListComp" => (k_here; k_dflt (refine ListComp_K (F₀ := by k_asm) (by with_unfolding_all rfl) (by decide) (by rfl) (by decide) (by rfl) ?_ (by intro _; rfl)))
  k_with "call builtin:dict.pop" => (k_here; k_dflt (refine' kdy_pop (more := []) (.inl rfl) (PySem.F.args_dict_pop_2 _ _) ?F ?N ?U ?d ?f ?k ?z ?_; (case F => k_asm); (case N => k_asm); (case U => k_updF); (case d => k_asm); (case f => k_asm); (case k => assumption); (case z => assumption)); intro _ _ _ _ _ _ _ _; (try k_sweep))
  k_with "call builtin:min" => (k_here; (with_unfolding_all refine' kso_min ?k1 ?k2 ?k3 ?k4 ?k5 ?k6 ?_; (case k1 => k_asm); (case k2 => k_asm); (case k4 => assumption); (case k3 => exact ⟨_, News.get (by assumption) (.head _), rfl, _, rfl⟩); (case k5 => assumption); (case k6 => rfl); k_whole); intro _ _ _ _ _ _ _ _; (try k_sweep))
  k_with "k_room" => (((try simp only [depth_under_make, depth_under_kw, depth_in1, depth_deeper, depth_caller, depth_mark]); (try dsimp only); omega))
  k_with "k_units" => (((try simp only [units_in1, units_deeper, Around.mark_units, units_caller]); (try dsimp only); omega))
  k_with "k_room" => ((try simp only [depth_under_make, depth_under_kw, depth_in1, depth_deeper, depth_caller, depth_mark]); (try dsimp only); first | exact room_le (b := 1) (by assumption) (by decide) | exact room_le (b := 2) (by assumption) (by decide) | exact room_le (b := 3) (by assumption) (by decide) | exact room_le (b := 4) (by assumption) (by decide))
  trivial
set_option maxRecDepth 100000
set_option maxHeartbeats 8000000


theorem enterC {prog : Program} {w : World} {K : Frag} {A : Around} {s : Shared}
    {R : Result → Shared → Prop} {name qual : Str} {params : Arguments} {body : List Stmt} {scope : Scope} {dV kV doc pm cdv ct oc : Value} {an od : Option Addr} {osl : Array (Option Value)} {f : Addr} {args : Args} {binds : List (Str × Value)}
    (X : K.In s.heap) (hlim : s.heap.NoLimit)
    (ho : K.lookup f = some ⟨oc, od, .func (fnOf name qual params body scope dV kV doc pm an cdv ct), osl⟩) (hcd : codeIn K cdv qual = true) (hroom : A.depth < recursionLimit)
    (hbind : BindsTo s (fnOf name qual params body scope dV kV doc pm an cdv ct) args binds) (hkind : (binds.all fun y => scope.names.lookup y.1 == some .local || scope.names.lookup y.1 == some .cell) = true)
    (hnd : ((cellsFrom 0 scope.names []).map (·.1)).Nodup)
    (h : ∀ (L' : Nat) h₁ tk cells, h₁.Ns L' (bindL (envOfC qual scope L' f cdv).kindOf binds fun _ => none) → s.heap.objs.size ≤ L' → s.heap.StaysIn h₁ → News s.heap L' h₁ cells →
      CellsAre (bindC (envOfC qual scope L' f cdv).kindOf binds fun _ => none) (cellsFrom (L' + 1) scope.names []) cells →
      wpAny (model prog w) (A.deeper (envOfC qual scope L' f cdv)) (execs body (envOfC qual scope L' f cdv))
        (fun fl s' => R (.ok (.ret (match fl with | .ret v => v | _ => .none))) s') (fun _ _ => False)
        { s with heap := h₁, toks := tk })
    (hco : scope.isCoroutine = false) (hgen : scope.isGenerator = false) (hk : scope.kind = .function) : codeAny (model prog w) A (.call (.ref f) args) R s := by
  refine codeAny_call_function hroom (X _ _ ho) rfl hco hgen rfl (codeRec_of X hcd) (hbind _ _ _ _ ?_)
  refine wpAny_newFunctionEnv_cells hk (kindsX hkind _) fun env' he s' x => ?_
  subst he
  refine ⟨hlim.keeps x.toInCall.keep, codeAny_func ?_⟩
  obtain ⟨h₁, tk, rfl, _⟩ := x.done
  have hk₁ := x.toInCall.keep
  obtain ⟨cells, NC, Y⟩ := Cl.news (h₀ := s.heap) (Nat.le_refl _) fun n c hm => ⟨x.cell n c (lookup_of_mem_nodup (cellsFrom_names scope.names 0 (s.heap.objs.size + 1) [] [] rfl ▸ hnd) hm), x.above n c hm⟩
  exact wpAny_mono (h _ h₁ tk cells x.toInCall.ns (Nat.le_refl _) hk₁ NC Y) (fun _ _ q => q) fun _ _ q => q.elim

theorem HS.keep {prog : Program} {w : World} {z : Nat} {h h' : Heap} {H I D : Nat} {t : Option Tp} {kvs : List (Int × Value)} (hs : HS prog w z h H I D t kvs) (k : ∀ b o, h.get? b = some o → h'.get? b = some o) : HS prog w z h' H I D t kvs := by
  obtain ⟨hH, ⟨q1, q2, u1, u2, hI⟩, ⟨oD, hD, hDo⟩, lo, hID, hHD, zH, zI, zD, tr, ord, nd, keys, small⟩ := hs
  exact ⟨k _ _ hH, ⟨q1, q2, u1, u2, k _ _ hI⟩, ⟨oD, k _ _ hD, hDo⟩, lo, hID, hHD, zH, zI, zD, tr.step (F := []) ⟨fun b o e _ => k b o e, by simp⟩ (by simp), ord, nd, keys, small⟩
theorem HS.step {prog : Program} {w : World} {z : Nat} {h h' : Heap} {H I D : Nat} {t : Option Tp} {kvs : List (Int × Value)} {F : List Nat} (hs : HS prog w z h H I D t kvs) (St : Step z F h h')
    (nF : ∀ b ∈ F, b ≠ H ∧ b ≠ I ∧ b ≠ D ∧ b ∉ taddrs t) : HS prog w z h' H I D t kvs := by
  obtain ⟨hH, ⟨q1, q2, u1, u2, hI⟩, ⟨oD, hD, hDo⟩, lo, hID, hHD, zH, zI, zD, tr, ord, nd, keys, small⟩ := hs
  exact ⟨St.keep _ _ hH fun m => (nF _ m).1 rfl, ⟨q1, q2, u1, u2, St.keep _ _ hI fun m => (nF _ m).2.1 rfl⟩, ⟨oD, St.keep _ _ hD fun m => (nF _ m).2.2.1 rfl, hDo⟩, lo, hID, hHD, zH, zI, zD, tr.step St (fun a ha m => (nF _ m).2.2.2 ha), ord, nd, keys, small⟩
section
variable {w : World} {dp un : Nat} {gd : Option (List Code)} {outer : List Env} {mean : ExcName → Option Value} {mg mb : Str → Option Value} {g0 base : Heap} {z : Nat} {R : Result → Shared → Prop} {s : Shared} {self : Value}
theorem least_take {H I D Eh : Nat} {tp : Tp} {kvs hvs : List (Int × Value)} {c : List (Int × Int)} {oE : Obj} (G : Gd w mean mg mb g0 z) (S₀ : g0.StaysIn s.heap) (hdp : dp + 60 < recursionLimit) (hun : un + 400 < cLine)
    (hsz : g0.objs.size ≤ s.heap.objs.size) (g0H : g0.get? H = none) (g0I : g0.get? I = none) (g0D : g0.get? D = none) (g0E : g0.get? Eh = none)
    (hs : HS Challenge.rw_bf0021_01.row.prog w z s.heap H I D (some tp) kvs)
    (hE : s.heap.get? Eh = some oE) (hEo : oE.IsDictOf (intKind Challenge.rw_bf0021_01.row.prog w) hvs) (hEf : PyProof.V.FlatPairs PyData.int hvs (kdfD c)) (loE : (Eh == sysModules) = false) (nE : Eh ∉ I :: D :: tp.addrs)
    (hc : c.Perm (tp.items.map fun p => (p.2.1, p.2.2))) (EH : Eh ≠ H) (zE : Eh < z)
    (hR : ∀ h' tk t' oE' hvs', Step z (I :: D :: Eh :: tp.addrs) s.heap h' → HS Challenge.rw_bf0021_01.row.prog w z h' H I D t' (without kvs tp.k) → (titems t').Perm tp.l.items →
      h'.get? Eh = some oE' → oE'.IsDictOf (intKind Challenge.rw_bf0021_01.row.prog w) hvs' → PyProof.V.FlatPairs PyData.int hvs' (kdfD (kdyDel c tp.k)) → R (.ok (.ret (.bool true))) { s with heap := h', toks := tk }) :
    codeAny (model Challenge.rw_bf0021_01.row.prog w) (Ar dp un gd outer) (.call (.ref 208) ⟨[.ref H, .ref Eh, .bool true], []⟩) R s := by
  have XS := G.X.keeps S₀
  have TS := G.T.keeps S₀
  k_dflt (refine' enterC XS TS.nolimit ?k1 ?k2 ?k3 ?k4 ?k5 ?k6 ?k7 ?c1 ?c2 ?c3;
          (case k1 => k_is);
          (case k2 => k_is);
          (case k3 => simp only []; omega);
          (case k4 => first | exact BindsTo.of_eq rfl | exact binds_K (by k_in) rfl (by k_is) rfl rfl rfl);
          (case k5 => exact rfl);
          (case k6 => decide +kernel);
          (case c1 => exact rfl);
          (case c2 => exact rfl);
          (case c3 => exact rfl))
  intro L h₁ tk₁ cells ns₁ hL ks₁ NC Y
  obtain ⟨oc, hEc, d1⟩ := CellsAre.one Y
  subst hEc
  clear Y
  have hLz : g0.objs.size ≤ L := Nat.le_trans hsz hL
  have lt : ∀ {b o}, s.heap.get? b = some o → b < L := fun e => Nat.lt_of_lt_of_le (Heap.lt_size e) hL
  have h0n : ∀ {b : Nat}, g0.objs.size ≤ b → g0.get? b = none := fun {b} hb => by
    cases e : g0.get? b with
    | none => rfl
    | some o => exact absurd (Heap.lt_size e) (Nat.not_lt.mpr hb)
  have hs0 := hs
  obtain ⟨hfl, hfk⟩ := flat_get hEf
  have hnd : (c.map (·.1)).Nodup := hfk ▸ keysNodup hEo
  have hcm : (tp.k, tp.v) ∈ c := hc.mem_iff.mpr (by simp [Tp.items])
  have hlook := look_at hnd hcm
  have hpos : 0 < (c.map (·.2)).length := by
    rw [List.length_map]
    exact List.length_pos_of_mem hcm
  have hlen : hvs.length ≤ 100 := by
    have e := hc.length_eq
    have e2 := hs.keys.length_eq
    have e3 := hs.small
    simp only [List.length_map, titems] at e e2
    omega
  have hhas := hlook.1
  have hclen : c.length ≤ 16777216 := by omega
  have hmin : ∀ M : Int, M ∈ c.map (·.2) → (∀ a, a ∈ c.map (·.2) → M ≤ a) → tp.v = M := fun M h1 h2 => by
    refine Int.le_antisymm ?_ (h2 _ (List.mem_map_of_mem (f := (·.2)) hcm))
    obtain ⟨p, hp, rfl⟩ := List.mem_map.mp h1
    obtain ⟨q, hq, rfl⟩ := List.mem_map.mp (hc.mem_iff.mp hp)
    exact Tp.ord_all hs.ord q hq
  obtain ⟨hH, ⟨q1, q2, u1, u2, hI⟩, ⟨oD, hD, hDo⟩, lo, hID, hHD, zH, zI, zD, tr, ord, nd, keys, small⟩ := hs
  simp only [tptr] at hI
  have hcell := (NC _ (.head _)).1
  have cL := (NC _ (.head _)).2.1
  have gc : g0.get? (L + 1) = none := h0n (Nat.le_succ_of_le hLz)
  have htl : ∀ p ∈ [(L + 1, oc), (H, instObj 201 I), (I, hdict q1 q2 u1 u2 D (.ref tp.a)), (Eh, oE)], h₁.get? p.1 = some p.2 := all4 hcell (ks₁ _ _ hH) (ks₁ _ _ hI) (ks₁ _ _ hE)
  obtain ⟨g, rest, F, N, Sg, _, _, _, uns⟩ := focus (fun b o e => ks₁ b o (S₀ b o e)) hLz ns₁ [(L + 1, oc), (H, instObj 201 I), (I, hdict q1 q2 u1 u2 D (.ref tp.a)), (Eh, oE)]
    htl (all4 cL (Nat.ne_of_lt (lt hH)) (Nat.ne_of_lt (lt hI)) (Nat.ne_of_lt (lt hE))) (all4 gc g0H g0I g0E)
  have X := G.X.keeps Sg
  have T := G.T.keeps Sg
  simp only [List.cons_append, List.nil_append] at N
  (try dsimp only)
  with_reducible show wpAny _ _ _ _ _ _
  k_fold
  k_steps
  refine wpAny_Try_except ?_
  k_fold
  k_steps
  unfold Hold
  with_reducible rename Fr _ _ _ _ => F1
  with_reducible rename News _ _ _ _ => N1
  have hu1 := keepAll (uns _ _ F1 (newsTail (newsTail (newsTail (newsTail N1))))) N1 htl
  have k1 : ∀ b o, s.heap.get? b = some o → _ := fun b o e => hu1 b o (ks₁ b o e) (Nat.ne_of_lt (lt e)) (by simp)
  have hs1 := hs0.keep k1
  have hcell1 := news_get N1 (.head _)
  have hE1 := k1 _ _ hE
  have ns2 := F1.ns
  have S2 : g0.StaysIn _ := fun b o e => F1.keep b o (Sg b o e)
  clear uns X T F1 N1 Sg hu1
  refine wpAny_call ?_
  refine pop_spec (tp := tp) G ?kS ?kd ?kz g0H g0I g0D hs1 ?kR
  case kS => exact S2
  case kd => show dp + 1 + 40 < recursionLimit; first | exact room_le (d := dp) (b := 41) hdp (by decide) | omega
  case kz => exact Nat.le_trans hLz (Nat.le_of_lt ns2.lt)
  case kR =>
  intro h3 tk3 t' q kt vt St3 hs3 pt hq gq
  have fL : ∀ b ∈ I :: D :: tp.addrs, b < L := by
    simp only [List.mem_cons]
    rintro b (rfl | rfl | hb)
    · exact lt hI
    · exact lt hD
    · obtain ⟨_, _, _, _, _, _, _, _, _, _, _, e, _⟩ := TopC.cell tr b hb
      exact lt e
  have nL2 : L ∉ I :: D :: tp.addrs := fun hm => Nat.lt_irrefl _ (fL _ hm)
  have ns3 := ns_step ns2 St3 nL2
  have zF : ∀ b ∈ I :: D :: tp.addrs, g0.get? b = none := by
    simp only [List.mem_cons]
    rintro b (rfl | rfl | hb)
    · exact g0I
    · exact g0D
    · cases e : g0.get? b with
      | none => rfl
      | some o => exact absurd (Heap.lt_size e) (Nat.not_lt.mpr (Nat.le_trans G.sz (TopC.le tr b hb)))
  have S3 : g0.StaysIn h3 := fun b o e => St3.keep b o (S2 b o e) fun hb => by rw [zF b hb] at e; cases e
  have hc3 := St3.keep _ _ hcell1 fun hm => Nat.lt_irrefl _ (Nat.lt_trans (Nat.lt_succ_self L) (fL _ hm))
  have EF : Eh ∉ I :: D :: tp.addrs := nE
  have hE3 := St3.keep _ _ hE1 EF
  have hc3 : h3.get? (L + 1) = some _ := hc3
  have qL := ns_ne ns3 hq (by intro es n e; cases e)
  have htl3 : ∀ p ∈ [(q, ({ cls := .type "tuple", data := .seq #[.int tp.k kt, .int tp.v vt] } : Obj)), (L + 1, oc), (Eh, oE)], h3.get? p.1 = some p.2 := all3 hq hc3 hE3
  obtain ⟨g, rest, F, N, Sg, hne, _, hgL, uns⟩ := focus S3 hLz ns3 [(q, ({ cls := .type "tuple", data := .seq #[.int tp.k kt, .int tp.v vt] } : Obj)), (L + 1, oc), (Eh, oE)] htl3 (all3 qL cL (Nat.ne_of_lt (lt hE))) (all3 gq gc g0E)
  have X := G.X.keeps Sg
  have T := G.T.keeps Sg
  have hrE := hne _ (.tail _ (.tail _ (.head _)))
  dsimp only at hrE
  have EL1 : @Ne Nat Eh (L + 1) := Nat.ne_of_lt (Nat.lt_succ_of_lt (lt hE))
  have qE : @Ne Nat q Eh := fun e => by
    rw [e, hE3] at hq
    obtain ⟨_, _, _, od, _⟩ := hEo
    cases hq; cases od
  simp only [List.cons_append, List.nil_append] at N
  (try dsimp only)
  with_reducible show wpAny _ _ _ _ _ _
  k_fold
  k_steps
  all_goals first | (exfalso; rename kdfHas c tp.k = false => e9; rw [hlook.1] at e9; cases e9; done) | (exfalso; rename kdfLook c tp.k 0 ≠ tp.v => e9; exact e9 hlook.2) | skip
  with_reducible rename Fr _ _ _ _ => F1
  with_reducible rename News _ _ _ _ => N1
  refine ⟨Eh, oE, hvs, _, rfl, rfl, F1, N1, .tail _ (.tail _ (.head _)), hEo, loE, by rw [sizeLine_eq]; omega, ?_⟩
  rintro s₂ ⟨h9, rfl⟩
  refine rest_gen hEf hnd ?_ ?_
  · intro ys hys D5 h5 tk5 F5 N5 off5
    obtain ⟨_, _, DE, _⟩ := off5
    have DE : @Ne Nat Eh D5 := DE
    (try simp only [List.cons_append, List.nil_append] at N5)
    (try dsimp only)
    with_reducible show wpAny _ _ _ _ _ _
    k_fold
    k_steps
    · exact absurd (hmin _ (by assumption) (by assumption)) (by assumption)
    with_reducible rename Fr _ _ _ _ => F6
    with_reducible rename News _ _ _ _ => N6
    rename Obj.IsDictOf _ _ _ => hEo6
    rename PyProof.V.FlatPairs _ _ _ => hEf6
    have hu := uns _ _ F6 (newsTail (newsTail (newsTail (newsTail N6))))
    have hq6 := news_get N6 (.tail _ (.head _))
    have hc6 := news_get N6 (.tail _ (.tail _ (.head _)))
    have hE6 := news_get N6 (.tail _ (.tail _ (.tail _ (.head _))))
    have k6 := keepSet (P := fun b => b = Eh) hu (by
      simp only [List.map_cons, List.map_nil]
      exact all3 (.inr ⟨_, hq, hq6⟩) (.inr ⟨_, hc3, hc6⟩) (.inl rfl))
    have nL6 := ns_notEmpty ns3 (x := Str.ofString "heap") (by rfl)
    have Sx : Step z [L, Eh] h3 _ := ⟨fun b o e n => by
      simp only [List.mem_cons, List.not_mem_nil, or_false, not_or] at n
      exact k6 b o e n.1 n.2, by
      simp only [List.mem_cons, List.not_mem_nil, or_false, forall_eq_or_imp, forall_eq]
      exact ⟨fun _ => nL6, fun q => absurd q (Nat.not_le.mpr zE)⟩⟩
    have hs6 := hs3.step Sx (by
      simp only [List.mem_cons, List.not_mem_nil, or_false, forall_eq_or_imp, forall_eq]
      exact ⟨⟨Ne.symm (Nat.ne_of_lt (lt hH)), Ne.symm (Nat.ne_of_lt (lt hI)), Ne.symm (Nat.ne_of_lt (lt hD)), hs3.tr.notL ns3⟩, EH, fun e => nE (e ▸ .head _), fun e => nE (e ▸ .tail _ (.head _)), fun hm => Nat.lt_irrefl _ (Nat.lt_of_lt_of_le zE (hs3.tr.le _ hm))⟩)
    have StF : Step z (I :: D :: Eh :: tp.addrs) s.heap _ := ⟨fun b o e n => by
      simp only [List.mem_cons, not_or] at n
      exact k6 b o (St3.keep b o (k1 b o e) (by simp only [List.mem_cons, not_or]; exact ⟨n.1, n.2.1, n.2.2.2⟩)) (Nat.ne_of_lt (lt e)) n.2.2.1, by
      simp only [List.mem_cons]
      rintro b (rfl | rfl | rfl | hb) q
      · exact absurd q (Nat.not_le.mpr zI)
      · exact absurd q (Nat.not_le.mpr zD)
      · exact absurd q (Nat.not_le.mpr zE)
      · exact TopC.notDict tr b hb q⟩
    exact hR _ _ t' _ _ StF hs6 pt hE6 hEo6 hEf6
  · intro k t I oI C oC D m₂ h tk ys Rest E' hhas hoC hmx F N off ne hRest
    (try simp only [List.cons_append, List.nil_append] at N)
    k_steps
    with_reducible rename Fr _ _ _ _ => F6
    with_reducible rename News _ _ _ _ => N6
    exact LCg.CompEnd.intro F6 N6 _ (fun _ q => q) off (.tail _ (.tail _ (.head _))) (hRest _)

end
end
end
section
open PySem PySem.W PyProof.Rows PySem.Calls
section
example : True := by
  w_top off
  k_with_none
  k_with "eval Name" => (k_here; k_dflt (refine' nameX_L ?F ?v ?_ ?a ?b; (case F => k_asm); (case a => exact Eq.refl _); (case b => exact Eq.refl (some NameKind.local)); (case v => exact Eq.refl (some _)); k_whole))
  k_with "k_ne" => (refine neN ?_; (try dsimp only); first | assumption | (apply Ne.symm; assumption))
  k_with "k_inst" => (first | (refine' instR ?F ?N ?h1 ?hd ?hs; (case F => k_asm); (case N => k_asm); (case h1 => k_mem); (case hd => assumption); (case hs => (intro p9 h9; repeat (first | exact h9 | refine List.Mem.tail _ ?_)))) | fail "instR")
  k_with "k_all" => (first | assumption | fail "k_all")
  k_with "k_handed" => (assumption)
  k_with "call ref" => (with_reducible show wpAny _ _ (PySem.call (Value.ref 184) _ _) _ _ _; refine Hold.mk ?_)
  k_with "call ref" => (with_reducible show wpAny _ _ (PySem.call (Value.ref 191) _ _) _ _ _; refine Hold.mk ?_)
  k_with "call ref" => (with_reducible show wpAny _ _ (PySem.call (Value.ref 198) _ _) _ _ _; refine Hold.mk ?_)
  k_with "getMethod ref" => (k_here; k_dflt (refine' kdg_method (knd := PySem.intKind _ _) ?N ?hp ?hd ?_; (case N => k_asm); (case hp => k_mem); (case hd => assumption); k_whole))
  k_with "call builtin:dict.get" => (k_here; k_dflt (refine' kdg_get1 (knd := PySem.intKind _ _) ?N ?hp ?hd ?lo (intKind_is _ _ _ _) _ ?hl ?_; (case N => k_asm); (case hp => k_mem); (case hd => assumption); (case lo => assumption); (case hl => assumption); k_whole); (try dsimp only [Option.getD]))
  k_with "delItem ref int" => (k_here; k_dflt (refine' kob_del (knd := PySem.intKind _ _) ?F ?N ?U ?d (intKind_is _ _ _ _) ?l ?z ?_; (case F => k_asm); (case N => k_asm); (case U => k_updF); (case d => assumption); (case l => assumption); (case z => assumption)); intro _ _ _ _ _; (try k_sweep))
  k_with "k_room" => ((try simp only [depth_under_make, depth_under_kw, depth_in1, depth_deeper, depth_caller, depth_mark]); (try dsimp only); first | exact room_le (b := 1) (by assumption) (by decide) | exact room_le (b := 2) (by assumption) (by decide) | exact room_le (b := 3) (by assumption) (by decide) | exact room_le (b := 4) (by assumption) (by decide))
  trivial
set_option maxRecDepth 100000
set_option maxHeartbeats 8000000


section
variable {w : World} {dp un : Nat} {gd : Option (List Code)} {outer : List Env} {mean : ExcName → Option Value} {mg mb : Str → Option Value} {g0 base : Heap} {z : Nat} {R : Result → Shared → Prop} {s : Shared} {self : Value}
theorem min_spec {H I D : Nat} {tp : Tp} {kvs : List (Int × Value)} (G : Gd w mean mg mb g0 z) (S₀ : g0.StaysIn s.heap) (hdp : dp + 40 < recursionLimit)
    (hsz : g0.objs.size ≤ s.heap.objs.size) (g0H : g0.get? H = none) (g0I : g0.get? I = none)
    (hs : HS Challenge.rw_bf0021_01.row.prog w z s.heap H I D (some tp) kvs)
    (hR : ∀ h' tk q kt vt, (∀ b o, s.heap.get? b = some o → h'.get? b = some o) →
      h'.get? q = some { cls := .type "tuple", data := .seq #[.int tp.k kt, .int tp.v vt] } → g0.get? q = none → R (.ok (.ret (.ref q))) { s with heap := h', toks := tk }) :
    codeAny (model Challenge.rw_bf0021_01.row.prog w) (Ar dp un gd outer) (.call (.ref 154) ⟨[.ref H], []⟩) R s := by
  have XS := G.X.keeps S₀
  have TS := G.T.keeps S₀
  k_dflt (refine' enterF XS TS.nolimit ?k1 ?k2 ?k3 ?k4 ?k5 ?k6 ?c1 ?c2 ?c3 ?c4;
          (case k1 => k_is);
          (case k2 => k_is);
          (case k3 => simp only []; omega);
          (case k4 => first | exact BindsTo.of_eq rfl | exact binds_K (by k_in) rfl (by k_is) rfl rfl rfl);
          (case k5 => exact locs rfl);
          (case c1 => exact rfl);
          (case c2 => exact rfl);
          (case c3 => exact rfl);
          (case c4 => decide))
  intro L h₁ tk₁ ns₁ hL ks₁
  have hLz : g0.objs.size ≤ L := Nat.le_trans hsz hL
  have lt : ∀ {b o}, s.heap.get? b = some o → b < L := fun e => Nat.lt_of_lt_of_le (Heap.lt_size e) hL
  have h0n : ∀ {b : Nat}, z ≤ b → g0.get? b = none := fun {b} hb => by
    cases e : g0.get? b with
    | none => rfl
    | some o => exact absurd (Nat.lt_of_lt_of_le (Heap.lt_size e) G.sz) (Nat.not_lt.mpr hb)
  obtain ⟨hH, ⟨q1, q2, u1, u2, hI⟩, ⟨oD, hD, hDo⟩, lo, hID, hHD, zH, zI, zD, tr, ord, nd, keys, small⟩ := hs
  simp only [tptr] at hI
  obtain ⟨nx, pa, pr, ⟨ad, akt, avt, az, adz, ag, agd⟩, rl⟩ := tr
  have htl : ∀ p ∈ [(H, instObj 201 I), (I, hdict q1 q2 u1 u2 D (.ref tp.a)), (tp.a, nodeObj ad (.int tp.k akt) (.int tp.v avt) pr pa nx tp.l.ptr)], h₁.get? p.1 = some p.2 := all3 (ks₁ _ _ hH) (ks₁ _ _ hI) (ks₁ _ _ ag)
  obtain ⟨g, rest, F, N, Sg, hne, _, _, uns⟩ := focus (fun b o e => ks₁ b o (S₀ b o e)) hLz ns₁ [(H, instObj 201 I), (I, hdict q1 q2 u1 u2 D (.ref tp.a)), (tp.a, nodeObj ad (.int tp.k akt) (.int tp.v avt) pr pa nx tp.l.ptr)]
    htl (all3 (Nat.ne_of_lt (lt hH)) (Nat.ne_of_lt (lt hI)) (Nat.ne_of_lt (lt ag))) (all3 g0H g0I (h0n az))
  have X := G.X.keeps Sg
  have T := G.T.keeps Sg
  simp only [List.cons_append, List.nil_append] at N
  have nDz : ∀ {x : Nat}, x < z → ad ≠ x := fun hx e => Nat.lt_irrefl _ (Nat.lt_of_lt_of_le hx (e ▸ adz))
  have eb : ∀ h' m', Fr g L h' m' → News g L h' rest → h'.get? ad = some emptyDict := fun h' m' F' N' => uns h' m' F' N' ad _ (ks₁ _ _ agd) (Nat.ne_of_lt (lt agd)) (by simpa using ⟨nDz zH, nDz zI, nDict ag agd⟩)
  (try dsimp only)
  with_reducible show wpAny _ _ _ _ _ _
  k_fold
  k_steps
  with_reducible rename Fr _ _ _ _ => F1
  with_reducible rename News _ _ _ _ => N1
  have hu := keepAll (uns _ _ F1 (newsTail (newsTail (newsTail (newsTail N1))))) (newsTail N1) htl
  have hq6 := news_get N1 (.head _)
  have gq6 := noneOf Sg (N1 _ (.head _)).2.2
  exact hR _ _ _ akt avt (fun b o e => hu b o (ks₁ b o e) (Nat.ne_of_lt (lt e)) (by simp)) hq6 gq6
end
end
end
section
open PySem PySem.W PyProof.Rows PySem.Calls
section
example : True := by
  w_top off
  k_with_none
  k_with "eval Name" => (k_here; k_dflt (refine' nameX_L ?F ?v ?_ ?a ?b; (case F => k_asm); (case a => exact Eq.refl _); (case b => exact Eq.refl (some NameKind.local)); (case v => exact Eq.refl (some _)); k_whole))
  k_with "k_ne" => (refine neN ?_; (try dsimp only); first | assumption | (apply Ne.symm; assumption))
  k_with "k_inst" => (first | (refine' instR ?F ?N ?h1 ?hd ?hs; (case F => k_asm); (case N => k_asm); (case h1 => k_mem); (case hd => assumption); (case hs => (intro p9 h9; repeat (first | exact h9 | refine List.Mem.tail _ ?_)))) | fail "instR")
  k_with "k_all" => (first | assumption | fail "k_all")
  k_with "k_handed" => (assumption)
  k_with "getMethod ref" => (k_here; k_dflt (refine' kdg_method (knd := PySem.intKind _ _) ?N ?hp ?hd ?_; (case N => k_asm); (case hp => k_mem); (case hd => assumption); k_whole))
  k_with "call builtin:dict.get" => (k_here; k_dflt (refine' kdg_get1 (knd := PySem.intKind _ _) ?N ?hp ?hd ?lo (intKind_is _ _ _ _) _ ?hl ?_; (case N => k_asm); (case hp => k_mem); (case hd => assumption); (case lo => assumption); (case hl => assumption); k_whole); (try dsimp only [Option.getD]))
  k_with "call ref" => (with_reducible show wpAny _ _ (PySem.call (Value.ref 154) _ _) _ _ _; refine Hold.mk ?_)
  k_with "eval ListComp" => (k_here; k_dflt (refine ListComp_K (F₀ := by k_asm) (by with_unfolding_all rfl) (by decide) (by rfl) (by decide) (by rfl) ?_ (by intro _; rfl)))
  k_with "call builtin:dict.pop" => (k_here; k_dflt (refine' kdy_pop (more := []) (.inl rfl) (PySem.F.args_dict_pop_2 _ _) ?F ?N ?U ?d ?f ?k ?z ?_; (case F => k_asm); (case N => k_asm); (case U => k_updF); (case d => k_asm); (case f => k_asm); (case k => assumption); (case z => assumption)); intro _ _ _ _ _ _ _ _; (try k_sweep))
  k_with "call builtin:min" => (k_here; (with_unfolding_all refine' kso_min ?k1 ?k2 ?k3 ?k4 ?k5 ?k6 ?_; (case k1 => k_asm); (case k2 => k_asm); (case k4 => assumption); (case k3 => exact ⟨_, News.get (by assumption) (.head _), rfl, _, rfl⟩); (case k5 => assumption); (case k6 => rfl); k_whole); intro _ _ _ _ _ _ _ _; (try k_sweep))
  k_with "k_room" => (((try simp only [depth_under_make, depth_under_kw, depth_in1, depth_deeper, depth_caller, depth_mark]); (try dsimp only); omega))
  k_with "k_units" => (((try simp only [units_in1, units_deeper, Around.mark_units, units_caller]); (try dsimp only); omega))
  k_with "k_room" => ((try simp only [depth_under_make, depth_under_kw, depth_in1, depth_deeper, depth_caller, depth_mark]); (try dsimp only); first | exact room_le (b := 1) (by assumption) (by decide) | exact room_le (b := 2) (by assumption) (by decide) | exact room_le (b := 3) (by assumption) (by decide) | exact room_le (b := 4) (by assumption) (by decide))
  trivial
set_option maxRecDepth 100000
set_option maxHeartbeats 8000000

section
variable {w : World} {dp un : Nat} {gd : Option (List Code)} {outer : List Env} {mean : ExcName → Option Value} {mg mb : Str → Option Value} {g0 base : Heap} {z : Nat} {R : Result → Shared → Prop} {s : Shared} {self : Value}
theorem least_look {H I D Eh : Nat} {tp : Tp} {kvs hvs : List (Int × Value)} {c : List (Int × Int)} {oE : Obj} (G : Gd w mean mg mb g0 z) (S₀ : g0.StaysIn s.heap) (hdp : dp + 60 < recursionLimit) (hun : un + 400 < cLine)
    (hsz : g0.objs.size ≤ s.heap.objs.size) (g0H : g0.get? H = none) (g0I : g0.get? I = none) (g0D : g0.get? D = none) (g0E : g0.get? Eh = none)
    (hs : HS Challenge.rw_bf0021_01.row.prog w z s.heap H I D (some tp) kvs)
    (hE : s.heap.get? Eh = some oE) (hEo : oE.IsDictOf (intKind Challenge.rw_bf0021_01.row.prog w) hvs) (hEf : PyProof.V.FlatPairs PyData.int hvs (kdfD c)) (loE : (Eh == sysModules) = false) (nE : Eh ∉ I :: D :: tp.addrs)
    (hc : c.Perm (tp.items.map fun p => (p.2.1, p.2.2))) 
    (hR : ∀ h' tk, (∀ b o, s.heap.get? b = some o → h'.get? b = some o) → R (.ok (.ret (.bool true))) { s with heap := h', toks := tk }) :
    codeAny (model Challenge.rw_bf0021_01.row.prog w) (Ar dp un gd outer) (.call (.ref 208) ⟨[.ref H, .ref Eh, .bool false], []⟩) R s := by
  have XS := G.X.keeps S₀
  have TS := G.T.keeps S₀
  k_dflt (refine' enterC XS TS.nolimit ?k1 ?k2 ?k3 ?k4 ?k5 ?k6 ?k7 ?c1 ?c2 ?c3;
          (case k1 => k_is);
          (case k2 => k_is);
          (case k3 => simp only []; omega);
          (case k4 => first | exact BindsTo.of_eq rfl | exact binds_K (by k_in) rfl (by k_is) rfl rfl rfl);
          (case k5 => exact rfl);
          (case k6 => decide +kernel);
          (case c1 => exact rfl);
          (case c2 => exact rfl);
          (case c3 => exact rfl))
  intro L h₁ tk₁ cells ns₁ hL ks₁ NC Y
  obtain ⟨oc, hEc, d1⟩ := CellsAre.one Y
  subst hEc
  clear Y
  have hLz : g0.objs.size ≤ L := Nat.le_trans hsz hL
  have lt : ∀ {b o}, s.heap.get? b = some o → b < L := fun e => Nat.lt_of_lt_of_le (Heap.lt_size e) hL
  have h0n : ∀ {b : Nat}, g0.objs.size ≤ b → g0.get? b = none := fun {b} hb => by
    cases e : g0.get? b with
    | none => rfl
    | some o => exact absurd (Heap.lt_size e) (Nat.not_lt.mpr hb)
  have hs0 := hs
  obtain ⟨hfl, hfk⟩ := flat_get hEf
  have hnd : (c.map (·.1)).Nodup := hfk ▸ keysNodup hEo
  have hcm : (tp.k, tp.v) ∈ c := hc.mem_iff.mpr (by simp [Tp.items])
  have hlook := look_at hnd hcm
  have hpos : 0 < (c.map (·.2)).length := by
    rw [List.length_map]
    exact List.length_pos_of_mem hcm
  have hlen : hvs.length ≤ 100 := by
    have e := hc.length_eq
    have e2 := hs.keys.length_eq
    have e3 := hs.small
    simp only [List.length_map, titems] at e e2
    omega
  have hhas := hlook.1
  have hclen : c.length ≤ 16777216 := by omega
  have hmin : ∀ M : Int, M ∈ c.map (·.2) → (∀ a, a ∈ c.map (·.2) → M ≤ a) → tp.v = M := fun M h1 h2 => by
    refine Int.le_antisymm ?_ (h2 _ (List.mem_map_of_mem (f := (·.2)) hcm))
    obtain ⟨p, hp, rfl⟩ := List.mem_map.mp h1
    obtain ⟨q, hq, rfl⟩ := List.mem_map.mp (hc.mem_iff.mp hp)
    exact Tp.ord_all hs.ord q hq
  obtain ⟨hH, ⟨q1, q2, u1, u2, hI⟩, ⟨oD, hD, hDo⟩, lo, hID, hHD, zH, zI, zD, tr, ord, nd, keys, small⟩ := hs
  simp only [tptr] at hI
  have hcell := (NC _ (.head _)).1
  have cL := (NC _ (.head _)).2.1
  have gc : g0.get? (L + 1) = none := h0n (Nat.le_succ_of_le hLz)
  have htl : ∀ p ∈ [(L + 1, oc), (H, instObj 201 I), (I, hdict q1 q2 u1 u2 D (.ref tp.a)), (Eh, oE)], h₁.get? p.1 = some p.2 := all4 hcell (ks₁ _ _ hH) (ks₁ _ _ hI) (ks₁ _ _ hE)
  obtain ⟨g, rest, F, N, Sg, _, _, _, uns⟩ := focus (fun b o e => ks₁ b o (S₀ b o e)) hLz ns₁ [(L + 1, oc), (H, instObj 201 I), (I, hdict q1 q2 u1 u2 D (.ref tp.a)), (Eh, oE)]
    htl (all4 cL (Nat.ne_of_lt (lt hH)) (Nat.ne_of_lt (lt hI)) (Nat.ne_of_lt (lt hE))) (all4 gc g0H g0I g0E)
  have X := G.X.keeps Sg
  have T := G.T.keeps Sg
  simp only [List.cons_append, List.nil_append] at N
  (try dsimp only)
  with_reducible show wpAny _ _ _ _ _ _
  k_fold
  k_steps
  refine wpAny_Try_except ?_
  k_fold
  k_steps
  unfold Hold
  with_reducible rename Fr _ _ _ _ => F1
  with_reducible rename News _ _ _ _ => N1
  have hu1 := keepAll (uns _ _ F1 (newsTail (newsTail (newsTail (newsTail N1))))) N1 htl
  have k1 : ∀ b o, s.heap.get? b = some o → _ := fun b o e => hu1 b o (ks₁ b o e) (Nat.ne_of_lt (lt e)) (by simp)
  have hs1 := hs0.keep k1
  have hcell1 := news_get N1 (.head _)
  have hE1 := k1 _ _ hE
  have ns2 := F1.ns
  have S2 : g0.StaysIn _ := fun b o e => F1.keep b o (Sg b o e)
  clear uns X T F1 N1 Sg hu1
  refine wpAny_call ?_
  refine min_spec (tp := tp) G ?kS ?kd ?kz g0H g0I hs1 ?kR
  case kS => exact S2
  case kd => show dp + 1 + 40 < recursionLimit; first | exact room_le (d := dp) (b := 41) hdp (by decide) | omega
  case kz => exact Nat.le_trans hLz (Nat.le_of_lt ns2.lt)
  case kR =>
  intro h3 tk3 q kt vt k3 hq gq
  have ns3 := ns_step (z := z) (F := []) ns2 ⟨fun b o e _ => k3 b o e, by simp⟩ (by simp)
  have S3 : g0.StaysIn h3 := fun b o e => k3 b o (S2 b o e)
  have hc3 : h3.get? (L + 1) = some _ := k3 _ _ hcell1
  have hE3 := k3 _ _ hE1
  have qL := ns_ne ns3 hq (by intro es n e; cases e)
  have htl3 : ∀ p ∈ [(q, ({ cls := .type "tuple", data := .seq #[.int tp.k kt, .int tp.v vt] } : Obj)), (L + 1, oc), (Eh, oE)], h3.get? p.1 = some p.2 := all3 hq hc3 hE3
  obtain ⟨g, rest, F, N, Sg, hne, _, hgL, uns⟩ := focus S3 hLz ns3 [(q, ({ cls := .type "tuple", data := .seq #[.int tp.k kt, .int tp.v vt] } : Obj)), (L + 1, oc), (Eh, oE)] htl3 (all3 qL cL (Nat.ne_of_lt (lt hE))) (all3 gq gc g0E)
  have X := G.X.keeps Sg
  have T := G.T.keeps Sg
  have hrE := hne _ (.tail _ (.tail _ (.head _)))
  dsimp only at hrE
  have EL1 : @Ne Nat Eh (L + 1) := Nat.ne_of_lt (Nat.lt_succ_of_lt (lt hE))
  have qE : @Ne Nat q Eh := fun e => by
    rw [e, hE3] at hq
    obtain ⟨_, _, _, od, _⟩ := hEo
    cases hq; cases od
  simp only [List.cons_append, List.nil_append] at N
  (try dsimp only)
  with_reducible show wpAny _ _ _ _ _ _
  k_fold
  k_steps
  all_goals first | (exfalso; rename kdfHas c tp.k = false => e9; rw [hlook.1] at e9; cases e9; done) | (exfalso; rename kdfLook c tp.k 0 ≠ tp.v => e9; exact e9 hlook.2) | skip
  with_reducible rename Fr _ _ _ _ => F1
  with_reducible rename News _ _ _ _ => N1
  refine ⟨Eh, oE, hvs, _, rfl, rfl, F1, N1, .tail _ (.tail _ (.head _)), hEo, loE, by rw [sizeLine_eq]; omega, ?_⟩
  rintro s₂ ⟨h9, rfl⟩
  refine rest_gen hEf hnd ?_ ?_
  · intro ys hys D5 h5 tk5 F5 N5 off5
    obtain ⟨_, _, DE, _⟩ := off5
    have DE : @Ne Nat Eh D5 := DE
    (try simp only [List.cons_append, List.nil_append] at N5)
    (try dsimp only)
    with_reducible show wpAny _ _ _ _ _ _
    k_fold
    k_steps
    all_goals first | (exact absurd (hmin _ (by assumption) (by assumption)) (by assumption)) | skip
    with_reducible rename Fr _ _ _ _ => F6
    with_reducible rename News _ _ _ _ => N6
    have hu := keepAll (uns _ _ F6 (newsTail (newsTail (newsTail (newsTail N6))))) (newsTail N6) htl3
    exact hR _ _ (fun b o e => hu b o (k3 b o (k1 b o e)) (Nat.ne_of_lt (lt e)) (by simp))
  · intro k t I oI C oC D m₂ h tk ys Rest E' hhas hoC hmx F N off ne hRest
    (try simp only [List.cons_append, List.nil_append] at N)
    k_steps
    with_reducible rename Fr _ _ _ _ => F6
    with_reducible rename News _ _ _ _ => N6
    exact LCg.CompEnd.intro F6 N6 _ (fun _ q => q) off (.tail _ (.tail _ (.head _))) (hRest _)

end
end
end
section
open PySem PySem.W PyProof.Rows PySem.Calls
section
example : True := by
  w_top off
  k_with_none
  k_with "eval Name" => (k_here; k_dflt (refine' nameX_L ?F ?v ?_ ?a ?b; (case F => k_asm); (case a => exact Eq.refl _); (case b => exact Eq.refl (some NameKind.local)); (case v => exact Eq.refl (some _)); k_whole))
  k_with "k_ne" => (refine neN ?_; (try dsimp only); first | assumption | (apply Ne.symm; assumption))
  k_with "k_inst" => (first | (refine' instR ?F ?N ?h1 ?hd ?hs; (case F => k_asm); (case N => k_asm); (case h1 => k_mem); (case hd => assumption); (case hs => (intro p9 h9; repeat (first | exact h9 | refine List.Mem.tail _ ?_)))) | fail "instR")
  k_with "k_all" => (first | assumption | fail "k_all")
  k_with "k_handed" => (assumption)
  k_with "call ref" => (with_reducible show wpAny _ _ (PySem.call (Value.ref 184) _ _) _ _ _; refine Hold.mk ?_)
  k_with "call ref" => (with_reducible show wpAny _ _ (PySem.call (Value.ref 191) _ _) _ _ _; refine Hold.mk ?_)
  k_with "call ref" => (with_reducible show wpAny _ _ (PySem.call (Value.ref 198) _ _) _ _ _; refine Hold.mk ?_)
  k_with "getMethod ref" => (k_here; k_dflt (refine' kdg_method (knd := PySem.intKind _ _) ?N ?hp ?hd ?_; (case N => k_asm); (case hp => k_mem); (case hd => assumption); k_whole))
  k_with "call builtin:dict.get" => (k_here; k_dflt (refine' kdg_get1 (knd := PySem.intKind _ _) ?N ?hp ?hd ?lo (intKind_is _ _ _ _) _ ?hl ?_; (case N => k_asm); (case hp => k_mem); (case hd => assumption); (case lo => assumption); (case hl => assumption); k_whole); (try dsimp only [Option.getD]))
  k_with "delItem ref int" => (k_here; k_dflt (refine' kob_del (knd := PySem.intKind _ _) ?F ?N ?U ?d (intKind_is _ _ _ _) ?l ?z ?_; (case F => k_asm); (case N => k_asm); (case U => k_updF); (case d => assumption); (case l => assumption); (case z => assumption)); intro _ _ _ _ _; (try k_sweep))
  k_with "k_room" => ((try simp only [depth_under_make, depth_under_kw, depth_in1, depth_deeper, depth_caller, depth_mark]); (try dsimp only); first | exact room_le (b := 1) (by assumption) (by decide) | exact room_le (b := 2) (by assumption) (by decide) | exact room_le (b := 3) (by assumption) (by decide) | exact room_le (b := 4) (by assumption) (by decide))
  trivial
set_option maxRecDepth 100000
set_option maxHeartbeats 8000000


section
variable {w : World} {dp un : Nat} {gd : Option (List Code)} {outer : List Env} {mean : ExcName → Option Value} {mg mb : Str → Option Value} {g0 B : Heap} {z : Nat} {R : Result → Shared → Prop} {s : Shared} {self : Value}
theorem pop_empty {H I D : Nat} {kvs : List (Int × Value)} (G : Gd w mean mg mb g0 z) (S₀ : g0.StaysIn s.heap) (hdp : dp + 40 < recursionLimit)
    (hsz : g0.objs.size ≤ s.heap.objs.size) (g0H : g0.get? H = none) (g0I : g0.get? I = none)
    (hs : HS Challenge.rw_bf0021_01.row.prog w z s.heap H I D none kvs)
    (hB : B.StaysIn s.heap) (hFF : s.heap.FunFrames B outer)
    (hR : ∀ h' tk e t, Heap.FlyingW B outer e (.ref 37) (.ref t) h' → s.heap.UpToSlots h' → R (.error (.ref e)) { s with heap := h', toks := tk }) :
    codeAny (model Challenge.rw_bf0021_01.row.prog w) (Ar dp un gd outer) (.call (.ref 161) ⟨[.ref H], []⟩) R s := by
  have XS := G.X.keeps S₀
  have TS := G.T.keeps S₀
  k_dflt (refine' enter (g := s.heap) (news := []) ⟨Nat.le_refl _, fun _ _ e => e, fun _ hp => nomatch hp⟩ XS TS.nolimit ?k1 ?k2 ?k3 ?k4 ?k5 ?k6 ?c1 ?c2 ?c3 ?c4;
          (case k1 => k_is);
          (case k2 => k_is);
          (case k3 => simp only []; omega);
          (case k4 => first | exact BindsTo.of_eq rfl | exact binds_K (by k_in) rfl (by k_is) rfl rfl rfl);
          (case k5 => exact locs rfl);
          (case c1 => exact rfl);
          (case c2 => exact rfl);
          (case c3 => exact rfl);
          (case c4 => decide))
  intro L h₁ F₀ N₀
  have ns₁ := F₀.ns
  have hL : s.heap.objs.size ≤ L := F₀.above
  have ks₁ : ∀ b o, s.heap.get? b = some o → h₁.get? b = some o := F₀.keep
  clear F₀ N₀
  have hLz : g0.objs.size ≤ L := Nat.le_trans hsz hL
  have lt : ∀ {b o}, s.heap.get? b = some o → b < L := fun e => Nat.lt_of_lt_of_le (Heap.lt_size e) hL
  obtain ⟨hH, ⟨q1, q2, u1, u2, hI⟩, ⟨oD, hD, hDo⟩, lo, hID, hHD, zH, zI, zD, tr, ord, nd, keys, small⟩ := hs
  simp only [tptr] at hI
  have htl : ∀ p ∈ [(H, instObj 201 I), (I, hdict q1 q2 u1 u2 D .none)], h₁.get? p.1 = some p.2 := all2 (ks₁ _ _ hH) (ks₁ _ _ hI)
  obtain ⟨g, rest, F, N, Sg, hne, _, _, uns⟩ := focus (fun b o e => ks₁ b o (S₀ b o e)) hLz ns₁ [(H, instObj 201 I), (I, hdict q1 q2 u1 u2 D .none)]
    htl (all2 (Nat.ne_of_lt (lt hH)) (Nat.ne_of_lt (lt hI))) (all2 g0H g0I)
  have X := G.X.keeps Sg
  have T := G.T.keeps Sg
  simp only [List.cons_append, List.nil_append] at N
  (try dsimp only)
  with_reducible show wpAny _ _ _ _ _ _
  k_fold
  k_steps
  rename Heap.MadeExcOf _ _ _ _ _ => hx
  have nB : B.get? L = none := by
    cases e : B.get? L with
    | none => rfl
    | some o => exact absurd (lt (hB _ _ e)) (Nat.lt_irrefl _)
  exact wpAny_leaves_madeW (base := B) (L := L) rfl rfl (fun b o e => ks₁ b o (hB b o e)) (Heap.FunFrames.cons (by intro q; cases q) rfl ns₁ nB (hFF.of_keeps fun b o e _ => ⟨o, ks₁ b o e, rfl⟩)) hx
    fun h' t x1 x2 x3 x4 => hR h' _ _ t x1 ((Heap.UpToSlots.of_keeps ks₁).trans ((Heap.UpToSlots.of_keeps hx.keeps).trans x4))
end

section
variable {w : World} {dp un : Nat} {gd : Option (List Code)} {outer : List Env} {mean : ExcName → Option Value} {mg mb : Str → Option Value} {g0 B : Heap} {z : Nat} {R : Result → Shared → Prop} {s : Shared} {self : Value}
theorem min_empty {H I D : Nat} {kvs : List (Int × Value)} (G : Gd w mean mg mb g0 z) (S₀ : g0.StaysIn s.heap) (hdp : dp + 40 < recursionLimit)
    (hsz : g0.objs.size ≤ s.heap.objs.size) (g0H : g0.get? H = none) (g0I : g0.get? I = none)
    (hs : HS Challenge.rw_bf0021_01.row.prog w z s.heap H I D none kvs)
    (hB : B.StaysIn s.heap) (hFF : s.heap.FunFrames B outer)
    (hR : ∀ h' tk e t, Heap.FlyingW B outer e (.ref 37) (.ref t) h' → s.heap.UpToSlots h' → R (.error (.ref e)) { s with heap := h', toks := tk }) :
    codeAny (model Challenge.rw_bf0021_01.row.prog w) (Ar dp un gd outer) (.call (.ref 154) ⟨[.ref H], []⟩) R s := by
  have XS := G.X.keeps S₀
  have TS := G.T.keeps S₀
  k_dflt (refine' enter (g := s.heap) (news := []) ⟨Nat.le_refl _, fun _ _ e => e, fun _ hp => nomatch hp⟩ XS TS.nolimit ?k1 ?k2 ?k3 ?k4 ?k5 ?k6 ?c1 ?c2 ?c3 ?c4;
          (case k1 => k_is);
          (case k2 => k_is);
          (case k3 => simp only []; omega);
          (case k4 => first | exact BindsTo.of_eq rfl | exact binds_K (by k_in) rfl (by k_is) rfl rfl rfl);
          (case k5 => exact locs rfl);
          (case c1 => exact rfl);
          (case c2 => exact rfl);
          (case c3 => exact rfl);
          (case c4 => decide))
  intro L h₁ F₀ N₀
  have ns₁ := F₀.ns
  have hL : s.heap.objs.size ≤ L := F₀.above
  have ks₁ : ∀ b o, s.heap.get? b = some o → h₁.get? b = some o := F₀.keep
  clear F₀ N₀
  have hLz : g0.objs.size ≤ L := Nat.le_trans hsz hL
  have lt : ∀ {b o}, s.heap.get? b = some o → b < L := fun e => Nat.lt_of_lt_of_le (Heap.lt_size e) hL
  obtain ⟨hH, ⟨q1, q2, u1, u2, hI⟩, ⟨oD, hD, hDo⟩, lo, hID, hHD, zH, zI, zD, tr, ord, nd, keys, small⟩ := hs
  simp only [tptr] at hI
  have htl : ∀ p ∈ [(H, instObj 201 I), (I, hdict q1 q2 u1 u2 D .none)], h₁.get? p.1 = some p.2 := all2 (ks₁ _ _ hH) (ks₁ _ _ hI)
  obtain ⟨g, rest, F, N, Sg, hne, _, _, uns⟩ := focus (fun b o e => ks₁ b o (S₀ b o e)) hLz ns₁ [(H, instObj 201 I), (I, hdict q1 q2 u1 u2 D .none)]
    htl (all2 (Nat.ne_of_lt (lt hH)) (Nat.ne_of_lt (lt hI))) (all2 g0H g0I)
  have X := G.X.keeps Sg
  have T := G.T.keeps Sg
  simp only [List.cons_append, List.nil_append] at N
  (try dsimp only)
  with_reducible show wpAny _ _ _ _ _ _
  k_fold
  k_steps
  rename Heap.MadeExcOf _ _ _ _ _ => hx
  have nB : B.get? L = none := by
    cases e : B.get? L with
    | none => rfl
    | some o => exact absurd (lt (hB _ _ e)) (Nat.lt_irrefl _)
  exact wpAny_leaves_madeW (base := B) (L := L) rfl rfl (fun b o e => ks₁ b o (hB b o e)) (Heap.FunFrames.cons (by intro q; cases q) rfl ns₁ nB (hFF.of_keeps fun b o e _ => ⟨o, ks₁ b o e, rfl⟩)) hx
    fun h' t x1 x2 x3 x4 => hR h' _ _ t x1 ((Heap.UpToSlots.of_keeps ks₁).trans ((Heap.UpToSlots.of_keeps hx.keeps).trans x4))
end
end
end
section
open PySem PySem.W PyProof.Rows PySem.Calls
section
example : True := by
  w_top off
  k_with_none
  k_with "eval Name" => (k_here; k_dflt (refine' nameX_L ?F ?v ?_ ?a ?b; (case F => k_asm); (case a => exact Eq.refl _); (case b => exact Eq.refl (some NameKind.local)); (case v => exact Eq.refl (some _)); k_whole))
  k_with "k_ne" => (refine neN ?_; (try dsimp only); first | assumption | (apply Ne.symm; assumption))
  k_with "k_inst" => (first | (refine' instR ?F ?N ?h1 ?hd ?hs; (case F => k_asm); (case N => k_asm); (case h1 => k_mem); (case hd => assumption); (case hs => (intro p9 h9; repeat (first | exact h9 | refine List.Mem.tail _ ?_)))) | fail "instR")
  k_with "k_all" => (first | assumption | fail "k_all")
  k_with "k_handed" => (assumption)
  k_with "getMethod ref" => (k_here; k_dflt (refine' kdg_method (knd := PySem.intKind _ _) ?N ?hp ?hd ?_; (case N => k_asm); (case hp => k_mem); (case hd => assumption); k_whole))
  k_with "call builtin:dict.get" => (k_here; k_dflt (refine' kdg_get1 (knd := PySem.intKind _ _) ?N ?hp ?hd ?lo (intKind_is _ _ _ _) _ ?hl ?_; (case N => k_asm); (case hp => k_mem); (case hd => assumption); (case lo => assumption); (case hl => assumption); k_whole); (try dsimp only [Option.getD]))
  k_with "call ref" => (with_reducible show wpAny _ _ (PySem.call (Value.ref 154) _ _) _ _ _; refine Hold.mk ?_)
  k_with "call ref" => (with_reducible show wpAny _ _ (PySem.call (Value.ref 161) _ _) _ _ _; refine Hold.mk ?_)
  k_with "eval ListComp" => (k_here; k_dflt (refine ListComp_K (F₀ := by k_asm) (by with_unfolding_all rfl) (by decide) (by rfl) (by decide) (by rfl) ?_ (by intro _; rfl)))
  k_with "call builtin:dict.pop" => (k_here; k_dflt (refine' kdy_pop (more := []) (.inl rfl) (PySem.F.args_dict_pop_2 _ _) ?F ?N ?U ?d ?f ?k ?z ?_; (case F => k_asm); (case N => k_asm); (case U => k_updF); (case d => k_asm); (case f => k_asm); (case k => assumption); (case z => assumption)); intro _ _ _ _ _ _ _ _; (try k_sweep))
  k_with "call builtin:min" => (k_here; (with_unfolding_all refine' kso_min ?k1 ?k2 ?k3 ?k4 ?k5 ?k6 ?_; (case k1 => k_asm); (case k2 => k_asm); (case k4 => assumption); (case k3 => exact ⟨_, News.get (by assumption) (.head _), rfl, _, rfl⟩); (case k5 => assumption); (case k6 => rfl); k_whole); intro _ _ _ _ _ _ _ _; (try k_sweep))
  k_with "k_room" => (((try simp only [depth_under_make, depth_under_kw, depth_in1, depth_deeper, depth_caller, depth_mark]); (try dsimp only); omega))
  k_with "k_units" => (((try simp only [units_in1, units_deeper, Around.mark_units, units_caller]); (try dsimp only); omega))
  k_with "k_room" => ((try simp only [depth_under_make, depth_under_kw, depth_in1, depth_deeper, depth_caller, depth_mark]); (try dsimp only); first | exact room_le (b := 1) (by assumption) (by decide) | exact room_le (b := 2) (by assumption) (by decide) | exact room_le (b := 3) (by assumption) (by decide) | exact room_le (b := 4) (by assumption) (by decide))
  trivial
set_option maxRecDepth 100000
set_option maxHeartbeats 8000000

open PySem

section
variable {w : World} {dp un : Nat} {gd : Option (List Code)} {outer : List Env} {mean : ExcName → Option Value} {mg mb : Str → Option Value} {g0 base : Heap} {z : Nat} {R : Result → Shared → Prop} {s : Shared} {self : Value}
theorem least_none_true {H I D Eh : Nat} {kvs : List (Int × Value)} {oE : Obj} (G : Gd w mean mg mb g0 z) (S₀ : g0.StaysIn s.heap) (hdp : dp + 60 < recursionLimit) (hun : un + 400 < cLine)
    (hsz : g0.objs.size ≤ s.heap.objs.size) (g0H : g0.get? H = none) (g0I : g0.get? I = none) (g0D : g0.get? D = none) (g0E : g0.get? Eh = none)
    (hs : HS Challenge.rw_bf0021_01.row.prog w z s.heap H I D none kvs)
    (hE : s.heap.get? Eh = some oE) (hEo : oE.IsDictOf (intKind Challenge.rw_bf0021_01.row.prog w) []) (loE : (Eh == sysModules) = false)
    (hFF : s.heap.FunFrames base outer) (nE : Eh ∉ outer.filterMap (·.frame)) (nG : ∀ b ∈ outer.filterMap (·.frame), g0.get? b = none)
    (hR : ∀ h' tk, s.heap.UpToSlots h' → (∀ b o, s.heap.get? b = some o → b ∉ outer.filterMap (·.frame) → h'.get? b = some o) → R (.ok (.ret (.bool true))) { s with heap := h', toks := tk }) :
    codeAny (model Challenge.rw_bf0021_01.row.prog w) (Ar dp un gd outer) (.call (.ref 208) ⟨[.ref H, .ref Eh, .bool true], []⟩) R s := by
  have XS := G.X.keeps S₀
  have TS := G.T.keeps S₀
  k_dflt (refine' enterC XS TS.nolimit ?k1 ?k2 ?k3 ?k4 ?k5 ?k6 ?k7 ?c1 ?c2 ?c3;
          (case k1 => k_is);
          (case k2 => k_is);
          (case k3 => simp only []; omega);
          (case k4 => first | exact BindsTo.of_eq rfl | exact binds_K (by k_in) rfl (by k_is) rfl rfl rfl);
          (case k5 => exact rfl);
          (case k6 => decide +kernel);
          (case c1 => exact rfl);
          (case c2 => exact rfl);
          (case c3 => exact rfl))
  intro L h₁ tk₁ cells ns₁ hL ks₁ NC Y
  obtain ⟨oc, hEc, d1⟩ := CellsAre.one Y
  subst hEc
  clear Y
  have hLz : g0.objs.size ≤ L := Nat.le_trans hsz hL
  have lt : ∀ {b o}, s.heap.get? b = some o → b < L := fun e => Nat.lt_of_lt_of_le (Heap.lt_size e) hL
  have h0n : ∀ {b : Nat}, g0.objs.size ≤ b → g0.get? b = none := fun {b} hb => by
    cases e : g0.get? b with
    | none => rfl
    | some o => exact absurd (Heap.lt_size e) (Nat.not_lt.mpr hb)
  have hs0 := hs
  obtain ⟨hH, ⟨q1, q2, u1, u2, hI⟩, ⟨oD, hD, hDo⟩, lo, hID, hHD, zH, zI, zD, tr, ord, nd, keys, small⟩ := hs
  simp only [tptr] at hI
  have hcell := (NC _ (.head _)).1
  have cL := (NC _ (.head _)).2.1
  have gc : g0.get? (L + 1) = none := h0n (Nat.le_succ_of_le hLz)
  have htl : ∀ p ∈ [(L + 1, oc), (H, instObj 201 I), (I, hdict q1 q2 u1 u2 D .none), (Eh, oE)], h₁.get? p.1 = some p.2 := all4 hcell (ks₁ _ _ hH) (ks₁ _ _ hI) (ks₁ _ _ hE)
  obtain ⟨g, rest, F, N, Sg, _, _, _, uns⟩ := focus (fun b o e => ks₁ b o (S₀ b o e)) hLz ns₁ [(L + 1, oc), (H, instObj 201 I), (I, hdict q1 q2 u1 u2 D .none), (Eh, oE)]
    htl (all4 cL (Nat.ne_of_lt (lt hH)) (Nat.ne_of_lt (lt hI)) (Nat.ne_of_lt (lt hE))) (all4 gc g0H g0I g0E)
  have X := G.X.keeps Sg
  have T := G.T.keeps Sg
  simp only [List.cons_append, List.nil_append] at N
  (try dsimp only)
  with_reducible show wpAny _ _ _ _ _ _
  k_fold
  k_steps
  refine wpAny_Try_except ?_
  k_fold
  k_steps
  unfold Hold
  with_reducible rename Fr _ _ _ _ => F1
  with_reducible rename News _ _ _ _ => N1
  have hu1 := keepAll (uns _ _ F1 (newsTail (newsTail (newsTail (newsTail N1))))) N1 htl
  have k1 : ∀ b o, s.heap.get? b = some o → _ := fun b o e => hu1 b o (ks₁ b o e) (Nat.ne_of_lt (lt e)) (by simp)
  have hs1 := hs0.keep k1
  have hcell1 := news_get N1 (.head _)
  have hE1 := k1 _ _ hE
  have ns2 := F1.ns
  have S2 : g0.StaysIn _ := fun b o e => F1.keep b o (Sg b o e)
  clear uns X T F1 N1 Sg hu1
  have fl : ∀ b ∈ outer.filterMap (·.frame), b < L := fun b hb => by
    obtain ⟨_, o, ho, _⟩ := hFF.mem hb
    exact lt ho
  have nLf : L ∉ outer.filterMap (·.frame) := fun hb => Nat.lt_irrefl _ (fl _ hb)
  have nCf : L + 1 ∉ outer.filterMap (·.frame) := fun hb => Nat.lt_irrefl _ (Nat.lt_trans (Nat.lt_succ_self L) (fl _ hb))
  refine wpAny_call ?_
  refine pop_empty (B := hideAll h₁ (L :: outer.filterMap (·.frame))) G ?kS ?kd ?kz g0H g0I hs1 ?kB ?kF ?kR
  case kS => exact S2
  case kd => show dp + 1 + 40 < recursionLimit; first | exact room_le (d := dp) (b := 41) hdp (by decide) | omega
  case kz => exact Nat.le_trans hLz (Nat.le_of_lt ns2.lt)
  case kB => exact fun b o e => of_hideAll _ e
  case kF =>
    refine Heap.FunFrames.cons (by intro q; cases q) rfl ns2 (hideAll_none _ (.head _)) ?_
    refine funFrames_hide (hFF.of_keeps fun b o e _ => ⟨o, k1 b o e, rfl⟩) fun env he a ha => .tail _ (List.mem_filterMap.mpr ⟨env, he, ha⟩)
  case kR =>
  intro h3 tk3 e t hfly up3
  (try dsimp only)
  with_reducible show wpAny _ _ _ _ _ _
  refine wpAny_looks_onW (L := L) rfl rfl hfly fun h4 hheld4 up4 => ?_
  refine wpAny_landsW hheld4 fun h5 hfl5 up5 => ?_
  have up5 : h₁.UpToSlots h5 := (up3.trans up4).trans up5
  clear up4 hheld4 hfly
  have inB : ∀ b o, h₁.get? b = some o → b ≠ L → b ∉ outer.filterMap (·.frame) → (hideAll h₁ (L :: outer.filterMap (·.frame))).get? b = some o := fun b o e n1 n2 => hideAll_get _ e (by simp only [List.mem_cons, not_or]; exact ⟨n1, n2⟩)
  have g0L : g0.get? L = none := h0n hLz
  have k5 : ∀ b o, h₁.get? b = some o → b ≠ L → b ∉ outer.filterMap (·.frame) → h5.get? b = some o := fun b o e n1 n2 => hfl5.1 b o (inB b o e n1 n2)
  have ns5 := up5.ns ns2
  have S5 : g0.StaysIn h5 := fun b o e => k5 b o (S2 b o e) (fun q => by rw [q, g0L] at e; cases e) (fun q => by rw [nG b q] at e; cases e)
  have hc5 := k5 _ _ hcell1 cL nCf
  have hE5 := k5 _ _ hE1 (Nat.ne_of_lt (lt hE)) nE
  have htl5 : ∀ p ∈ [(L + 1, oc), (Eh, oE)], h5.get? p.1 = some p.2 := all2 hc5 hE5
  refine wpAny_handleBy_cons (codeAny_handlers_test ?_) (by intro q; cases q)
  obtain ⟨g, rest, F, N, Sg, _, _, _, uns⟩ := focus S5 hLz ns5 [(L + 1, oc), (Eh, oE)] htl5 (all2 cL (Nat.ne_of_lt (lt hE))) (all2 gc g0E)
  have X := G.X.keeps Sg
  have T := G.T.keeps Sg
  simp only [List.cons_append, List.nil_append] at N
  (try dsimp only)
  with_reducible show wpAny _ _ _ _ _ _
  k_fold
  k_steps
  obtain ⟨ob, hob, hobc⟩ := hfl5.there
  obtain ⟨nm9, qn9, N9, bs9, bm9, hdct9, sn9, sub9, ab9, col9, dd9, k09, k19, k29, k39, k59, newId9, hC9, hbase9, hbT9⟩ := kts_cls (C := 37) (T := "BaseException") X (by kts_isx)
  have hC5 := F.keep _ _ hC9
  refine wpAny_excMatches_sub_self hC5 hob hobc hbase9 ?_
  (try dsimp only [if_true])
  refine codeAny_handlers_suite ?_
  refine lands_againW hfl5 fun h6 hfl6 up6' => ?_
  refine wpAny_passesOwnAt PassesOwnAt.never ?_
  clear uns X T F N Sg hC5 hC9 htl5
  have up6 : h₁.UpToSlots h6 := up5.trans up6'
  have k6 : ∀ b o, h₁.get? b = some o → b ≠ L → b ∉ outer.filterMap (·.frame) → h6.get? b = some o := fun b o e n1 n2 => hfl6.1 b o (inB b o e n1 n2)
  have ns6 := up6.ns ns2
  have S6 : g0.StaysIn h6 := fun b o e => k6 b o (S2 b o e) (fun q => by rw [q, g0L] at e; cases e) (fun q => by rw [nG b q] at e; cases e)
  have hc6 := k6 _ _ hcell1 cL nCf
  have hE6 := k6 _ _ hE1 (Nat.ne_of_lt (lt hE)) nE
  have htl6 : ∀ p ∈ [(L + 1, oc), (Eh, oE)], h6.get? p.1 = some p.2 := all2 hc6 hE6
  obtain ⟨g, rest, F, N, Sg, _, _, _, uns⟩ := focus S6 hLz ns6 [(L + 1, oc), (Eh, oE)] htl6 (all2 cL (Nat.ne_of_lt (lt hE))) (all2 gc g0E)
  have X := G.X.keeps Sg
  have T := G.T.keeps Sg
  simp only [List.cons_append, List.nil_append] at N
  have hEf : PyProof.V.FlatPairs PyData.int ([] : List (Int × Value)) (kdfD []) := .nil
  (try dsimp only)
  with_reducible show wpAny _ _ _ _ _ _
  k_fold
  k_steps
  exact hR h6 _ ((Heap.UpToSlots.of_keeps k1).trans up6) fun b o e n => k6 b o (k1 b o e) (Nat.ne_of_lt (lt e)) n
end

section
variable {w : World} {dp un : Nat} {gd : Option (List Code)} {outer : List Env} {mean : ExcName → Option Value} {mg mb : Str → Option Value} {g0 base : Heap} {z : Nat} {R : Result → Shared → Prop} {s : Shared} {self : Value}
theorem least_none_false {H I D Eh : Nat} {kvs : List (Int × Value)} {oE : Obj} (G : Gd w mean mg mb g0 z) (S₀ : g0.StaysIn s.heap) (hdp : dp + 60 < recursionLimit) (hun : un + 400 < cLine)
    (hsz : g0.objs.size ≤ s.heap.objs.size) (g0H : g0.get? H = none) (g0I : g0.get? I = none) (g0D : g0.get? D = none) (g0E : g0.get? Eh = none)
    (hs : HS Challenge.rw_bf0021_01.row.prog w z s.heap H I D none kvs)
    (hE : s.heap.get? Eh = some oE) (hEo : oE.IsDictOf (intKind Challenge.rw_bf0021_01.row.prog w) []) (loE : (Eh == sysModules) = false)
    (hFF : s.heap.FunFrames base outer) (nE : Eh ∉ outer.filterMap (·.frame)) (nG : ∀ b ∈ outer.filterMap (·.frame), g0.get? b = none)
    (hR : ∀ h' tk, s.heap.UpToSlots h' → (∀ b o, s.heap.get? b = some o → b ∉ outer.filterMap (·.frame) → h'.get? b = some o) → R (.ok (.ret (.bool true))) { s with heap := h', toks := tk }) :
    codeAny (model Challenge.rw_bf0021_01.row.prog w) (Ar dp un gd outer) (.call (.ref 208) ⟨[.ref H, .ref Eh, .bool false], []⟩) R s := by
  have XS := G.X.keeps S₀
  have TS := G.T.keeps S₀
  k_dflt (refine' enterC XS TS.nolimit ?k1 ?k2 ?k3 ?k4 ?k5 ?k6 ?k7 ?c1 ?c2 ?c3;
          (case k1 => k_is);
          (case k2 => k_is);
          (case k3 => simp only []; omega);
          (case k4 => first | exact BindsTo.of_eq rfl | exact binds_K (by k_in) rfl (by k_is) rfl rfl rfl);
          (case k5 => exact rfl);
          (case k6 => decide +kernel);
          (case c1 => exact rfl);
          (case c2 => exact rfl);
          (case c3 => exact rfl))
  intro L h₁ tk₁ cells ns₁ hL ks₁ NC Y
  obtain ⟨oc, hEc, d1⟩ := CellsAre.one Y
  subst hEc
  clear Y
  have hLz : g0.objs.size ≤ L := Nat.le_trans hsz hL
  have lt : ∀ {b o}, s.heap.get? b = some o → b < L := fun e => Nat.lt_of_lt_of_le (Heap.lt_size e) hL
  have h0n : ∀ {b : Nat}, g0.objs.size ≤ b → g0.get? b = none := fun {b} hb => by
    cases e : g0.get? b with
    | none => rfl
    | some o => exact absurd (Heap.lt_size e) (Nat.not_lt.mpr hb)
  have hs0 := hs
  obtain ⟨hH, ⟨q1, q2, u1, u2, hI⟩, ⟨oD, hD, hDo⟩, lo, hID, hHD, zH, zI, zD, tr, ord, nd, keys, small⟩ := hs
  simp only [tptr] at hI
  have hcell := (NC _ (.head _)).1
  have cL := (NC _ (.head _)).2.1
  have gc : g0.get? (L + 1) = none := h0n (Nat.le_succ_of_le hLz)
  have htl : ∀ p ∈ [(L + 1, oc), (H, instObj 201 I), (I, hdict q1 q2 u1 u2 D .none), (Eh, oE)], h₁.get? p.1 = some p.2 := all4 hcell (ks₁ _ _ hH) (ks₁ _ _ hI) (ks₁ _ _ hE)
  obtain ⟨g, rest, F, N, Sg, _, _, _, uns⟩ := focus (fun b o e => ks₁ b o (S₀ b o e)) hLz ns₁ [(L + 1, oc), (H, instObj 201 I), (I, hdict q1 q2 u1 u2 D .none), (Eh, oE)]
    htl (all4 cL (Nat.ne_of_lt (lt hH)) (Nat.ne_of_lt (lt hI)) (Nat.ne_of_lt (lt hE))) (all4 gc g0H g0I g0E)
  have X := G.X.keeps Sg
  have T := G.T.keeps Sg
  simp only [List.cons_append, List.nil_append] at N
  (try dsimp only)
  with_reducible show wpAny _ _ _ _ _ _
  k_fold
  k_steps
  refine wpAny_Try_except ?_
  k_fold
  k_steps
  unfold Hold
  with_reducible rename Fr _ _ _ _ => F1
  with_reducible rename News _ _ _ _ => N1
  have hu1 := keepAll (uns _ _ F1 (newsTail (newsTail (newsTail (newsTail N1))))) N1 htl
  have k1 : ∀ b o, s.heap.get? b = some o → _ := fun b o e => hu1 b o (ks₁ b o e) (Nat.ne_of_lt (lt e)) (by simp)
  have hs1 := hs0.keep k1
  have hcell1 := news_get N1 (.head _)
  have hE1 := k1 _ _ hE
  have ns2 := F1.ns
  have S2 : g0.StaysIn _ := fun b o e => F1.keep b o (Sg b o e)
  clear uns X T F1 N1 Sg hu1
  have fl : ∀ b ∈ outer.filterMap (·.frame), b < L := fun b hb => by
    obtain ⟨_, o, ho, _⟩ := hFF.mem hb
    exact lt ho
  have nLf : L ∉ outer.filterMap (·.frame) := fun hb => Nat.lt_irrefl _ (fl _ hb)
  have nCf : L + 1 ∉ outer.filterMap (·.frame) := fun hb => Nat.lt_irrefl _ (Nat.lt_trans (Nat.lt_succ_self L) (fl _ hb))
  refine wpAny_call ?_
  refine min_empty (B := hideAll h₁ (L :: outer.filterMap (·.frame))) G ?kS ?kd ?kz g0H g0I hs1 ?kB ?kF ?kR
  case kS => exact S2
  case kd => show dp + 1 + 40 < recursionLimit; first | exact room_le (d := dp) (b := 41) hdp (by decide) | omega
  case kz => exact Nat.le_trans hLz (Nat.le_of_lt ns2.lt)
  case kB => exact fun b o e => of_hideAll _ e
  case kF =>
    refine Heap.FunFrames.cons (by intro q; cases q) rfl ns2 (hideAll_none _ (.head _)) ?_
    refine funFrames_hide (hFF.of_keeps fun b o e _ => ⟨o, k1 b o e, rfl⟩) fun env he a ha => .tail _ (List.mem_filterMap.mpr ⟨env, he, ha⟩)
  case kR =>
  intro h3 tk3 e t hfly up3
  (try dsimp only)
  with_reducible show wpAny _ _ _ _ _ _
  refine wpAny_looks_onW (L := L) rfl rfl hfly fun h4 hheld4 up4 => ?_
  refine wpAny_landsW hheld4 fun h5 hfl5 up5 => ?_
  have up5 : h₁.UpToSlots h5 := (up3.trans up4).trans up5
  clear up4 hheld4 hfly
  have inB : ∀ b o, h₁.get? b = some o → b ≠ L → b ∉ outer.filterMap (·.frame) → (hideAll h₁ (L :: outer.filterMap (·.frame))).get? b = some o := fun b o e n1 n2 => hideAll_get _ e (by simp only [List.mem_cons, not_or]; exact ⟨n1, n2⟩)
  have g0L : g0.get? L = none := h0n hLz
  have k5 : ∀ b o, h₁.get? b = some o → b ≠ L → b ∉ outer.filterMap (·.frame) → h5.get? b = some o := fun b o e n1 n2 => hfl5.1 b o (inB b o e n1 n2)
  have ns5 := up5.ns ns2
  have S5 : g0.StaysIn h5 := fun b o e => k5 b o (S2 b o e) (fun q => by rw [q, g0L] at e; cases e) (fun q => by rw [nG b q] at e; cases e)
  have hc5 := k5 _ _ hcell1 cL nCf
  have hE5 := k5 _ _ hE1 (Nat.ne_of_lt (lt hE)) nE
  have htl5 : ∀ p ∈ [(L + 1, oc), (Eh, oE)], h5.get? p.1 = some p.2 := all2 hc5 hE5
  refine wpAny_handleBy_cons (codeAny_handlers_test ?_) (by intro q; cases q)
  obtain ⟨g, rest, F, N, Sg, _, _, _, uns⟩ := focus S5 hLz ns5 [(L + 1, oc), (Eh, oE)] htl5 (all2 cL (Nat.ne_of_lt (lt hE))) (all2 gc g0E)
  have X := G.X.keeps Sg
  have T := G.T.keeps Sg
  simp only [List.cons_append, List.nil_append] at N
  (try dsimp only)
  with_reducible show wpAny _ _ _ _ _ _
  k_fold
  k_steps
  obtain ⟨ob, hob, hobc⟩ := hfl5.there
  obtain ⟨nm9, qn9, N9, bs9, bm9, hdct9, sn9, sub9, ab9, col9, dd9, k09, k19, k29, k39, k59, newId9, hC9, hbase9, hbT9⟩ := kts_cls (C := 37) (T := "BaseException") X (by kts_isx)
  have hC5 := F.keep _ _ hC9
  refine wpAny_excMatches_sub_self hC5 hob hobc hbase9 ?_
  (try dsimp only [if_true])
  refine codeAny_handlers_suite ?_
  refine lands_againW hfl5 fun h6 hfl6 up6' => ?_
  refine wpAny_passesOwnAt PassesOwnAt.never ?_
  clear uns X T F N Sg hC5 hC9 htl5
  have up6 : h₁.UpToSlots h6 := up5.trans up6'
  have k6 : ∀ b o, h₁.get? b = some o → b ≠ L → b ∉ outer.filterMap (·.frame) → h6.get? b = some o := fun b o e n1 n2 => hfl6.1 b o (inB b o e n1 n2)
  have ns6 := up6.ns ns2
  have S6 : g0.StaysIn h6 := fun b o e => k6 b o (S2 b o e) (fun q => by rw [q, g0L] at e; cases e) (fun q => by rw [nG b q] at e; cases e)
  have hc6 := k6 _ _ hcell1 cL nCf
  have hE6 := k6 _ _ hE1 (Nat.ne_of_lt (lt hE)) nE
  have htl6 : ∀ p ∈ [(L + 1, oc), (Eh, oE)], h6.get? p.1 = some p.2 := all2 hc6 hE6
  obtain ⟨g, rest, F, N, Sg, _, _, _, uns⟩ := focus S6 hLz ns6 [(L + 1, oc), (Eh, oE)] htl6 (all2 cL (Nat.ne_of_lt (lt hE))) (all2 gc g0E)
  have X := G.X.keeps Sg
  have T := G.T.keeps Sg
  simp only [List.cons_append, List.nil_append] at N
  have hEf : PyProof.V.FlatPairs PyData.int ([] : List (Int × Value)) (kdfD []) := .nil
  (try dsimp only)
  with_reducible show wpAny _ _ _ _ _ _
  k_fold
  k_steps
  exact hR h6 _ ((Heap.UpToSlots.of_keeps k1).trans up6) fun b o e n => k6 b o (k1 b o e) (Nat.ne_of_lt (lt e)) n
end
end
end
section
open PySem PySem.W PyProof.Rows PySem.Calls
section
example : True := by
  w_top off
  k_with_none
  k_with "eval Name" => (k_here; k_dflt (refine' nameX_L ?F ?v ?_ ?a ?b; (case F => k_asm); (case a => exact Eq.refl _); (case b => exact Eq.refl (some NameKind.local)); (case v => exact Eq.refl (some _)); k_whole))
  k_with "k_ne" => (refine neN ?_; (try dsimp only); first | assumption | (apply Ne.symm; assumption))
  k_with "k_inst" => (first | (refine' instR ?F ?N ?h1 ?hd ?hs; (case F => k_asm); (case N => k_asm); (case h1 => k_mem); (case hd => assumption); (case hs => (intro p9 h9; repeat (first | exact h9 | refine List.Mem.tail _ ?_)))) | fail "instR")
  k_with "k_all" => (first | assumption | exact allNe4 (by assumption) (by assumption) | fail "k_all")
  k_with "k_handed" => (assumption)
  k_with "k_room" => (((try simp only [depth_under_make, depth_under_kw, depth_in1, depth_deeper, depth_caller]); (try dsimp only); omega))
  k_with "k_room" => ((try simp only [depth_under_make, depth_under_kw, depth_in1, depth_deeper, depth_caller, depth_mark]); (try dsimp only); first | exact room_le (b := 1) (by assumption) (by decide) | exact room_le (b := 2) (by assumption) (by decide) | exact room_le (b := 3) (by assumption) (by decide) | exact room_le (b := 4) (by assumption) (by decide))
  trivial
set_option maxRecDepth 100000
set_option maxHeartbeats 8000000
set_option pp.maxSteps 600



inductive Focused2 (g0 h : Heap) (L : Nat) (m : Str → Option Value) (tl : List (Addr × Obj)) : Prop
  | mk (g : Heap) (rest : List (Addr × Obj)) (F : Fr g L h m) (N : News g L h (tl ++ rest)) (S : g0.StaysIn g) (ne : ∀ q ∈ tl, ∀ p ∈ rest, p.1 ≠ q.1)
      (kg : ∀ b o, h.get? b = some o → b < L → b ∉ tl.map (·.1) → g.get? b = some o) (le : g.objs.size ≤ L)
      (uns : ∀ h' m', Fr g L h' m' → News g L h' rest → ∀ b o, h.get? b = some o → b ≠ L → b ∉ tl.map (·.1) → h'.get? b = some o)
      (inr : ∀ b o, h.get? b = some o → L < b → b ∉ tl.map (·.1) → (b, o) ∈ rest)
theorem focus2 {g0 h : Heap} {L : Nat} {m : Str → Option Value} (S : g0.StaysIn h) (hsz : g0.objs.size ≤ L) (ns : h.Ns L m) (tl : List (Addr × Obj)) (ht : ∀ p ∈ tl, h.get? p.1 = some p.2) (hL : ∀ p ∈ tl, p.1 ≠ L) (h0 : ∀ p ∈ tl, g0.get? p.1 = none) :
    Focused2 g0 h L m tl := by
  have keep : ∀ b o, h.get? b = some o → b < L → b ∉ tl.map (·.1) → (hideAll (truncH h L) (tl.map (·.1))).get? b = some o := fun b o e hb hn => hideAll_get _ (trunc_get e hb) hn
  have hge : (hideAll (truncH h L) (tl.map (·.1))).objs.size ≤ L := by rw [hideAll_size]; exact trunc_size h L
  refine ⟨hideAll (truncH h L) (tl.map (·.1)), restOf h L (tl.map (·.1)), ⟨ns, fun b o e => (of_trunc (of_hideAll _ e)).1, hge⟩, ?_, ?_, ?_, keep, hge, ?_, fun b o e hb hn => mem_rest.mpr ⟨hb, hn, e⟩⟩
  · intro p hp
    rcases List.mem_append.mp hp with hp | hp
    · exact ⟨ht p hp, hL p hp, hideAll_none _ (List.mem_map_of_mem hp)⟩
    · rw [mem_rest] at hp
      refine ⟨hp.2.2, Nat.ne_of_gt hp.1, ?_⟩
      cases q : (hideAll (truncH h L) (tl.map (·.1))).get? p.1 with
      | none => rfl
      | some o => exact absurd (of_trunc (of_hideAll _ q)).2 (Nat.lt_asymm hp.1)
  · intro b o e
    refine keep b o (S b o e) (Nat.lt_of_lt_of_le (Heap.lt_size e) hsz) fun q => ?_
    obtain ⟨p, hp, rfl⟩ := List.mem_map.mp q
    rw [h0 p hp] at e; cases e
  · intro q hq p hp e
    rw [mem_rest] at hp
    exact hp.2.1 (e ▸ List.mem_map_of_mem hq)
  · intro h' m' F N b o e hb hn
    rcases Nat.lt_or_gt_of_ne hb with q | q
    · exact F.keep b o (keep b o e q hn)
    · exact (N (b, o) (mem_rest.mpr ⟨q, hn, e⟩)).1


theorem allLt_mem {d : Nat} {l : List (Addr × Obj)} (h : AllLt d l) : ∀ p ∈ l, @LT.lt Nat _ p.1 d := by
  induction l with
  | nil => intro p hp; cases hp
  | cons q r ih =>
    intro p hp
    rcases List.mem_cons.mp hp with rfl | hp
    · exact h.1
    · exact ih h.2 p hp
theorem call_sz {prog : Program} {w : World} {K : Frag} {A : Around} {Q : Value → Shared → Prop} {E : Value → Shared → Prop} {s : Shared} {h₀ : Heap} {L C : Addr} {m : Str → Option Value} {news : List (Addr × Obj)} {fI : Addr} (F : Fr h₀ L s.heap m) (X₀ : K.In h₀) (N : News h₀ L s.heap news) (hm : makesIn K C = true)
    (hi : findIn K (.ref C) "__init__" = some (some (.ref fI))) (hf : isFn K (.ref fI) = true)
    (h : ∀ (x dx : Nat) h', Fr h₀ L h' m → News h₀ L h' ((x, instObj C dx) :: (dx, dictOf [] 0) :: news) → (∀ p ∈ news, @LT.lt Nat _ p.1 dx) → dx < x → s.heap.objs.size ≤ dx →
      codeAny (model prog w) (A.under (.builtin "type.__call__" ⟨[.ref C], []⟩)) (.call (.ref fI) ⟨[.ref x], []⟩) (InitBack x fun r s' => match r with | .ok (.ret v) => Q v s' | .ok _ => False | .error e => E e s') { s with heap := h' }) :
    wpAny (model prog w) A (call (.ref C) []) Q E s := by
  refine wpAny_call ?_
  obtain ⟨hh, g, d, t, os⟩ := s
  have X := X₀.keeps F.keep
  refine make_core (makes_of X hm) (looks_findIn X hi) (fun self => bind_fn X self (beq_iff_eq.mp hf)) (.inl rfl) (h _ hh.objs.size _ ((F.push _).push _) ?_ (fun p hp => Heap.lt_size (N p hp).1) (Nat.lt_succ_self _) (Nat.le_refl _))
  have := (N.push F emptyDict).push (F.push _) (instObj C hh.objs.size)
  rwa [Heap.size_push] at this
section
variable {w : World} {dp un : Nat} {gd : Option (List Code)} {outer : List Env} {mean : ExcName → Option Value} {mg mb : Str → Option Value} {g0 base : Heap} {z : Nat} {E : Value → Shared → Prop} {s : Shared} {self : Value}
theorem new_heap {L fa : Nat} {m : Str → Option Value} {cn : Str} {ig ic : Bool} {nms : List (Str × NameKind)} {ccd : Value} {Q : Value → Shared → Prop} (G : Gd w mean mg mb g0 z) (S₀ : g0.StaysIn s.heap) (hdp : dp + 40 < recursionLimit) (hun : un + 400 < cLine)
    (B₀ : Below (Ar dp un gd outer) base outer g0) (hLz : g0.objs.size ≤ L) (ns : s.heap.Ns L m)
    (hQ : ∀ h' tk x I D q1 q2 u1 u2 oD, h'.Ns L m → (∀ b o, s.heap.get? b = some o → @Ne Nat b L → h'.get? b = some o) → h'.get? x = some (instObj 201 I) → h'.get? I = some (hdict q1 q2 u1 u2 D .none) → h'.get? D = some oD → oD.IsDictOf (intKind Challenge.rw_bf0021_01.row.prog w) [] →
      s.heap.get? x = none → s.heap.get? I = none → s.heap.get? D = none → (D == sysModules) = false → @LT.lt Nat _ L x ∧ @LT.lt Nat _ L I ∧ @LT.lt Nat _ L D ∧ @LT.lt Nat _ I x ∧ @LT.lt Nat _ x D → Q (.ref x) { s with heap := h', toks := tk }) :
    wpAny (model Challenge.rw_bf0021_01.row.prog w) ((Ar dp un gd outer).deeper (envOf cn { kind := .function, names := nms, isGenerator := ig, isCoroutine := ic } L fa ccd)) (call (.ref 201) []) Q E s := by
  obtain ⟨g, rest, F, N, Sg, hne, kg, _, uns, inr⟩ := focus2 S₀ hLz ns [] (by simp) (by simp) (by simp)
  have X := G.X.keeps Sg
  have T := G.T.keeps Sg
  have B : Below (Ar dp un gd outer) base outer g := ⟨B₀.stack, fun b o e => Sg b o (B₀.stays b o e), B₀.frames.of_keeps fun b o e _ => ⟨o, Sg b o e, rfl⟩⟩
  simp only [List.nil_append] at N
  clear hne
  (try dsimp only)
  with_reducible show wpAny _ _ _ _ _ _
  (try k_fold)
  have fresh : ∀ b : Nat, g.get? b = none → @Ne Nat b L → (∀ p ∈ rest, @LT.lt Nat _ p.1 b) → s.heap.get? b = none := fun b hb hn hl => by
    cases e : s.heap.get? b with
    | none => rfl
    | some o =>
      exfalso
      rcases Nat.lt_or_gt_of_ne hn with q | q
      · have := kg b o e q (by simp)
        rw [hb] at this; cases this
      · exact Nat.lt_irrefl _ (hl _ (inr b o e q (by simp)))
  clear inr
  refine' call_sz F X N ?k4 ?k5 ?k6 ?_
  (case k4 => k_is)
  (case k5 => k_is)
  (case k6 => k_is)
  intro x I h9 F9 N9 lI lx lsz
  (try k_lt lI); (try k_lt2 lx)
  ks_enter
  k_steps
  rename_i D _ oD loD _ _ hiD _ lD _ _ _ _ _ _ _ _ kF kN _ _
  have kF : Fr g L _ m := kF
  have kN : News g L _ _ := kN
  have lr : ∀ p ∈ rest, @LT.lt Nat _ p.1 I := lI
  have lIx : @LT.lt Nat _ I x := lx
  have hu := uns _ _ kF (newsTail (newsTail (newsTail (newsTail (newsTail kN)))))
  have nD := kN _ (.head _)
  have nx := kN _ (.tail _ (.tail _ (.tail _ (.head _))))
  have nI := kN _ (.tail _ (.tail _ (.tail _ (.tail _ (.head _)))))
  exact hQ _ _ x I D _ _ _ _ oD kF.ns (fun b o e hbL => hu b o e hbL (by simp)) nx.1 nI.1 nD.1 hiD (fresh x nx.2.2 nx.2.1 fun p hp => Nat.lt_trans (lr p hp) lIx) (fresh I nI.2.2 nI.2.1 lr) (fresh D nD.2.2 nD.2.1 (allLt_mem lD.2.2.2.2)) loD ⟨Nat.lt_of_lt_of_le ns.lt (Nat.le_trans lsz (Nat.le_of_lt lIx)), Nat.lt_of_lt_of_le ns.lt lsz, Nat.lt_trans (Nat.lt_of_lt_of_le ns.lt (Nat.le_trans lsz (Nat.le_of_lt lIx))) lD.2.2.1, lIx, lD.2.2.1⟩
end
end
end
section
open PySem PySem.W PyProof.Rows PySem.Calls
section
open PyProof.V

noncomputable def lowerOf (c : List (Int × Int)) (k v : Int) : Bool := !kdfHas c k || decide (v < kdfLook c k 0)
noncomputable def newC (c : List (Int × Int)) (k v : Int) (up : Bool) : List (Int × Int) := if (lowerOf c k v || up) = true then kdfPut c k v else c

theorem put_perm {c m : List (Int × Int)} {k v v' : Int} (nd : (c.map (·.1)).Nodup) (h : c.Perm ((k, v) :: m)) : (kdfPut c k v').Perm ((k, v') :: m) := by
  have n2 := (h.map (·.1)).nodup_iff.mp nd
  simp only [List.map_cons, List.nodup_cons] at n2
  have hin : (k, v) ∈ c := h.mem_iff.mpr (.head _)
  unfold kdfPut
  rw [if_pos (List.any_eq_true.mpr ⟨_, hin, by simp⟩)]
  refine (h.map _).trans ?_
  simp only [List.map_cons, decide_true, if_true]
  refine List.Perm.of_eq ?_
  congr 1
  conv => rhs; rw [← List.map_id m]
  refine List.map_congr_left fun p hp => ?_
  rw [if_neg]
  · rfl
  · intro e
    exact n2.1 ((by simpa using e : p.1 = k) ▸ List.mem_map_of_mem hp)
theorem del_perm {c m : List (Int × Int)} {k v : Int} (nd : (c.map (·.1)).Nodup) (h : c.Perm ((k, v) :: m)) : (kdyDel c k).Perm m := by
  have n2 := (h.map (·.1)).nodup_iff.mp nd
  simp only [List.map_cons, List.nodup_cons] at n2
  have h1 : (kdyDel c k).Perm (kdyDel ((k, v) :: m) k) := h.filter _
  have h2 : kdyDel ((k, v) :: m) k = m := by
    unfold kdyDel
    rw [List.filter_cons_of_neg (by simp), List.filter_eq_self]
    intro p hp
    have : ¬ p.1 = k := fun e => n2.1 (e ▸ List.mem_map_of_mem hp)
    simp [this]
  rw [h2] at h1
  exact h1
theorem put_new {c : List (Int × Int)} {k v : Int} (h : kdfHas c k = false) : kdfPut c k v = c ++ [(k, v)] := by
  unfold kdfPut
  rw [if_neg (by unfold kdfHas at h; rw [h]; decide)]

structure Side (w : World) (z : Nat) (h : Heap) (H I D E : Nat) (t : Option Tp) (kvs : List (Int × Value)) (c : List (Int × Int)) : Prop where
  hs : HS Challenge.rw_bf0021_01.row.prog w z h H I D t kvs
  hE : ∃ oE hvs, h.get? E = some oE ∧ oE.IsDictOf (intKind Challenge.rw_bf0021_01.row.prog w) hvs ∧ FlatPairs PyData.int hvs (kdfD c)
  loE : (E == sysModules) = false
  EH : E ≠ H
  EI : E ≠ I
  ED : E ≠ D
  zE : E < z
  perm : c.Perm ((titems t).map fun p => (p.2.1, p.2.2))
  dom : ∀ p ∈ c, 0 ≤ p.1 ∧ p.1 < 6

theorem Side.nd {w : World} {z : Nat} {h : Heap} {H I D E : Nat} {t : Option Tp} {kvs : List (Int × Value)} {c : List (Int × Int)} (S : Side w z h H I D E t kvs c) : (c.map (·.1)).Nodup := by
  obtain ⟨oE, hvs, _, h2, h3⟩ := S.hE
  exact (flat_get h3).2 ▸ keysNodup h2
theorem Side.ndk {w : World} {z : Nat} {h : Heap} {H I D E : Nat} {t : Option Tp} {kvs : List (Int × Value)} {c : List (Int × Int)} (S : Side w z h H I D E t kvs c) : (kvs.map (·.1)).Nodup := by
  obtain ⟨oD, _, h2⟩ := S.hs.hD
  exact keysNodup h2
theorem nodup_six : ∀ {n : Nat} {l : List Int}, l.Nodup → (∀ x ∈ l, 0 ≤ x ∧ x < (n : Int)) → l.length ≤ n := by
  intro n
  induction n with
  | zero =>
    intro l hn hd
    cases l with
    | nil => exact Nat.le_refl _
    | cons a r => have := hd a (.head _); omega
  | succ n ih =>
    intro l hn hd
    by_cases hm : (n : Int) ∈ l
    · have h1 := ih (hn.erase (n : Int)) fun x hx => by
        have h2 := hn.mem_erase_iff.mp hx
        have h3 := hd x h2.2
        have h4 : x ≠ (n : Int) := h2.1
        omega
      rw [List.length_erase_of_mem hm] at h1
      omega
    · have h1 := ih hn fun x hx => by
        have h3 := hd x hx
        have h4 : x ≠ (n : Int) := fun e => hm (e ▸ hx)
        omega
      omega
theorem Side.len {w : World} {z : Nat} {h : Heap} {H I D E : Nat} {t : Option Tp} {kvs : List (Int × Value)} {c : List (Int × Int)} (S : Side w z h H I D E t kvs c) : c.length ≤ 6 := by
  have := nodup_six (l := c.map (·.1)) (n := 6) S.nd (by
    intro x hx
    obtain ⟨p, hp, rfl⟩ := List.mem_map.mp hx
    exact S.dom p hp)
  simpa using this
theorem Side.klen {w : World} {z : Nat} {h : Heap} {H I D E : Nat} {t : Option Tp} {kvs : List (Int × Value)} {c : List (Int × Int)} (S : Side w z h H I D E t kvs c) : kvs.length = c.length := by
  have e1 := S.perm.length_eq
  have e2 := S.hs.keys.length_eq
  simp only [List.length_map] at e1 e2
  omega

theorem Side.step {w : World} {z : Nat} {h h' : Heap} {H I D E : Nat} {t : Option Tp} {kvs : List (Int × Value)} {c : List (Int × Int)} {F : List Nat} (S : Side w z h H I D E t kvs c) (St : Step z F h h')
    (nF : ∀ b ∈ F, b ≠ H ∧ b ≠ I ∧ b ≠ D ∧ b ≠ E ∧ b ∉ taddrs t) : Side w z h' H I D E t kvs c := by
  obtain ⟨oE, hvs, h1, h2, h3⟩ := S.hE
  exact ⟨S.hs.step St fun b hb => ⟨(nF b hb).1, (nF b hb).2.1, (nF b hb).2.2.1, (nF b hb).2.2.2.2⟩, ⟨oE, hvs, St.keep _ _ h1 fun m => (nF _ m).2.2.2.1 rfl, h2, h3⟩, S.loE, S.EH, S.EI, S.ED, S.zE, S.perm, S.dom⟩

theorem Side.key_some {w : World} {z : Nat} {h : Heap} {H I D E : Nat} {t : Option Tp} {kvs : List (Int × Value)} {c : List (Int × Int)} (S : Side w z h H I D E t kvs c) {k : Int} (hk : kdfHas c k = true) :
    ∃ lc a v0 l, t = some (Loc.fill lc a k v0 l) ∧ valueAt kvs k = some (.ref a) ∧ kdfLook c k 0 = v0 ∧ (k, v0) ∈ c := by
  unfold kdfHas at hk
  rw [List.any_eq_true] at hk
  obtain ⟨⟨k', v0⟩, hp, e⟩ := hk
  have e : k' = k := by simpa using e
  subst e
  obtain ⟨⟨a, k2, v2⟩, hq, e⟩ := List.mem_map.mp (S.perm.mem_iff.mp hp)
  injection e with e1 e2
  dsimp only at e1 e2
  subst e1 e2
  have hva : valueAt kvs k2 = some (.ref a) := (valueAt_iff S.ndk).mpr (S.hs.keys.mem_iff.mpr (List.mem_map.mpr ⟨_, hq, rfl⟩))
  cases t with
  | none => simp [titems] at hq
  | some tp =>
    have hq : (a, k2, v2) ∈ tp.items := hq
    have ha : a ∈ tp.addrs := by rw [Tp.addrs_items]; exact List.mem_map_of_mem (f := (·.1)) hq
    obtain ⟨lc, k3, v3, l, e⟩ := Loc.find ha
    have nd := S.hs.nd
    rw [taddrs_items] at nd
    have hq3 : (a, k3, v3) ∈ tp.items := by rw [e]; exact (Loc.fill_items lc a k3 v3 l).mem_iff.mpr (.head _)
    have same : (k2, v2) = (k3, v3) := by
      have inj : ∀ {l : List (Nat × Int × Int)}, (l.map (·.1)).Nodup → ∀ {x y : Nat × Int × Int}, x ∈ l → y ∈ l → x.1 = y.1 → x = y := by
        intro l
        induction l with
        | nil => intro _ x y hx; cases hx
        | cons q r ih =>
          intro hn x y hx hy hxy
          simp only [List.map_cons, List.nodup_cons] at hn
          rcases List.mem_cons.mp hx with hx1 | hx1 <;> rcases List.mem_cons.mp hy with hy1 | hy1
          · rw [hx1, hy1]
          · exact absurd (by rw [← hx1, hxy]; exact List.mem_map_of_mem hy1) hn.1
          · exact absurd (by rw [← hy1, ← hxy]; exact List.mem_map_of_mem hx1) hn.1
          · exact ih hn.2 hx1 hy1 hxy
      have := inj (l := tp.items) nd hq hq3 rfl
      injection this
    injection same with s1 s2
    subst s1 s2
    exact ⟨lc, a, v2, l, by rw [← e], hva, (look_at S.nd hp).2, hp⟩
theorem Side.key_none {w : World} {z : Nat} {h : Heap} {H I D E : Nat} {t : Option Tp} {kvs : List (Int × Value)} {c : List (Int × Int)} (S : Side w z h H I D E t kvs c) {k : Int} (hk : kdfHas c k = false) : valueAt kvs k = none := by
  rw [valueAt_none]
  intro hm
  obtain ⟨p, hp, rfl⟩ := List.mem_map.mp hm
  obtain ⟨⟨a, k2, v2⟩, hq, e⟩ := List.mem_map.mp (S.hs.keys.mem_iff.mp hp)
  subst e
  have : (k2, v2) ∈ c := S.perm.mem_iff.mpr (List.mem_map.mpr ⟨_, hq, rfl⟩)
  have := (look_at S.nd this).1
  rw [hk] at this; cases this
end
end
section
open PySem PySem.W PyProof.Rows PySem.Calls
section
open PyProof.V
section
variable {w : World} {dp un : Nat} {gd : Option (List Code)} {outer : List Env} {mean : ExcName → Option Value} {mg mb : Str → Option Value} {g0 base : Heap} {z : Nat} {R : Result → Shared → Prop} {s : Shared}

theorem Step.addD {I D : Nat} {l : List Nat} {h h' : Heap} (St : Step z (I :: l) h h') (zD : D < z) : Step z (I :: D :: l) h h' :=
  St.mono (by
    simp only [List.mem_cons]
    rintro b (q | q)
    · exact .inl q
    · exact .inr (.inr q)) (by
    simp only [List.mem_cons]
    rintro b (q | q | q) hz
    · exact St.only b (q ▸ .head _) hz
    · subst q; exact absurd hz (Nat.not_le.mpr zD)
    · exact St.only b (.tail _ q) hz)

theorem ins_spec {H I D E y : Nat} {oy : Obj} {t : Option Tp} {kvs : List (Int × Value)} {c : List (Int × Int)} {k v : Int} {kt vt : Tok} {up : Bool} (G : Gd w mean mg mb g0 z) (S₀ : g0.StaysIn s.heap) (hdp : dp + 60 < recursionLimit) (hun : un + 400 < cLine)
    (B₀ : Below (Ar dp un gd outer) base outer g0)
    (hsz : g0.objs.size ≤ s.heap.objs.size) (g0H : g0.get? H = none) (g0I : g0.get? I = none) (g0D : g0.get? D = none) (g0y : g0.get? y = none)
    (hy : s.heap.get? y = some oy) (yz : z ≤ y + 1) (yH : @Ne Nat y H) (yI : @Ne Nat y I) (yD : @Ne Nat y D)
    (Sd : Side w z s.heap H I D E t kvs c)
    (hR : ∀ h' tk t' kvs', Step z (I :: D :: taddrs t) s.heap h' → HS Challenge.rw_bf0021_01.row.prog w z h' H I D t' kvs' → (∀ a ∈ taddrs t', a ∈ taddrs t ∨ s.heap.get? a = none) →
      (newC c k v up).Perm ((titems t').map fun p => (p.2.1, p.2.2)) → R (.ok (.ret (.bool (lowerOf c k v)))) { s with heap := h', toks := tk }) :
    codeAny (model Challenge.rw_bf0021_01.row.prog w) (Ar dp un gd outer) (.call (.ref 177) ⟨[.ref H, .int k kt, .int v vt, .bool up], []⟩) R s := by
  have hd4 : dp + 40 < recursionLimit := by omega
  cases hk : kdfHas c k with
  | false =>
    have hl : lowerOf c k v = true := by simp [lowerOf, hk]
    have hn : newC c k v up = c ++ [(k, v)] := by simp [newC, hl, put_new hk]
    rw [hl, hn] at hR
    have hlen : kvs.length ≤ 99 := by rw [Sd.klen]; have := Sd.len; omega
    refine insert_new (t := t) G S₀ hd4 hun B₀ hsz g0H g0I g0D g0y hy yz yH yI yD Sd.hs hlen (Sd.key_none hk) fun h' tk t' x St hs' pt hx zx => ?_
    refine hR h' tk (some t') _ St hs' ?_ ?_
    · intro a ha
      rw [taddrs_items] at ha
      have := (pt.map (·.1)).mem_iff.mp ha
      rcases List.mem_cons.mp this with q | q
      · exact .inr (q ▸ hx)
      · rw [taddrs_items]; exact .inl q
    · refine (List.perm_append_singleton _ _).trans ?_
      refine List.Perm.trans ?_ (pt.map (fun p : Nat × Int × Int => (p.2.1, p.2.2))).symm
      exact Sd.perm.cons _
  | true =>
    obtain ⟨lc, a, v0, l, rfl, hva, hlk, hin⟩ := Sd.key_some hk
    have hft : (titems (some (Loc.fill lc a k v0 l))).Perm ((a, k, v0) :: (l.items ++ lc.items)) := Loc.fill_items lc a k v0 l
    have hcp : c.Perm ((k, v0) :: ((l.items ++ lc.items).map fun p => (p.2.1, p.2.2))) := Sd.perm.trans (hft.map _)
    have up' : ∀ (t' : Tp), t'.items.Perm ((a, k, v) :: (l.items ++ lc.items)) → (∀ b ∈ taddrs (some t'), b ∈ taddrs (some (Loc.fill lc a k v0 l)) ∨ s.heap.get? b = none) ∧ (kdfPut c k v).Perm ((titems (some t')).map fun p => (p.2.1, p.2.2)) := by
      intro t' pt
      refine ⟨fun b hb => .inl ?_, (put_perm Sd.nd hcp).trans (pt.map (fun p : Nat × Int × Int => (p.2.1, p.2.2))).symm⟩
      rw [taddrs_items] at hb ⊢
      have h1 := (pt.map (·.1)).mem_iff.mp hb
      exact (hft.map (·.1)).mem_iff.mpr h1
    have same : ∀ h' tk, Step z [] s.heap h' → newC c k v up = c ∨ (newC c k v up).Perm c → lowerOf c k v = false → R (.ok (.ret (.bool false))) { s with heap := h', toks := tk } := by
      intro h' tk St hn hl
      have := hR h' tk _ kvs (St.mono (G := I :: D :: taddrs (some (Loc.fill lc a k v0 l))) (by simp) (by
        simp only [List.mem_cons]
        rintro b (q | q | q) hz
        · subst q; exact absurd hz (Nat.not_le.mpr Sd.hs.zI)
        · subst q; exact absurd hz (Nat.not_le.mpr Sd.hs.zD)
        · exact Sd.hs.tr.notDict b q hz)) (Sd.hs.step St (by simp)) (fun b hb => .inl hb) (by
        rcases hn with e | e
        · rw [e]; exact Sd.perm
        · exact e.trans Sd.perm)
      rw [hl] at this
      exact this
    by_cases hv : v < v0
    · have hl : lowerOf c k v = true := by simp [lowerOf, hlk, hv]
      have hn : newC c k v up = kdfPut c k v := by simp [newC, hl]
      rw [hl, hn] at hR
      have fin : ∀ h' tk t', Step z (I :: (Loc.fill lc a k v0 l).addrs) s.heap h' → HS Challenge.rw_bf0021_01.row.prog w z h' H I D (some t') kvs → t'.items.Perm ((a, k, v) :: (l.items ++ lc.items)) → R (.ok (.ret (.bool true))) { s with heap := h', toks := tk } :=
        fun h' tk t' St hs' pt => hR h' tk (some t') kvs (St.addD Sd.hs.zD) hs' (up' t' pt).1 (up' t' pt).2
      cases lc with
      | top => exact insert_low_top G S₀ hd4 hsz g0H g0I g0D Sd.hs hva hv fin
      | sub cc r =>
        by_cases hp : v < cc.pval
        · exact insert_low_cut G S₀ hd4 hsz g0H g0I g0D Sd.hs hva hv hp fin
        · exact insert_low_stay G S₀ hd4 hsz g0H g0I g0D Sd.hs hva hv hp fin
    · have hl : lowerOf c k v = false := by simp [lowerOf, hk, hlk, hv]
      cases up with
      | false => exact insert_same (up := false) G S₀ hd4 hsz g0H g0I g0D Sd.hs hva hv (.inl rfl) fun h' tk St => same h' tk St (.inl (by simp [newC, hl])) hl
      | true =>
        by_cases hu : v0 < v
        · have hn : newC c k v true = kdfPut c k v := by simp [newC, hl]
          rw [hl, hn] at hR
          exact insert_up G S₀ hd4 hsz g0H g0I g0D Sd.hs hva hv hu fun h' tk t' St hs' pt => hR h' tk (some t') kvs (St.addD Sd.hs.zD) hs' (up' t' pt).1 (up' t' pt).2
        · have e : v = v0 := by omega
          subst e
          refine insert_same (up := true) G S₀ hd4 hsz g0H g0I g0D Sd.hs hva hv (.inr hu) fun h' tk St => same h' tk St (.inr ?_) hl
          simp only [newC, hl, Bool.or_true, if_true]
          exact (put_perm Sd.nd hcp).trans hcp.symm

theorem least_spec {H I D E Lf : Nat} {t : Option Tp} {kvs : List (Int × Value)} {c : List (Int × Int)} {take : Bool} (G : Gd w mean mg mb g0 z) (S₀ : g0.StaysIn s.heap) (hdp : dp + 60 < recursionLimit) (hun : un + 400 < cLine)
    (hsz : g0.objs.size ≤ s.heap.objs.size) (g0H : g0.get? H = none) (g0I : g0.get? I = none) (g0D : g0.get? D = none) (g0E : g0.get? E = none) (g0L : g0.get? Lf = none)
    (hFF : s.heap.FunFrames base outer) (hout : outer.filterMap (·.frame) = [Lf]) (zL : Lf < z) (LI : @Ne Nat Lf I) (LD : @Ne Nat Lf D) (LE : @Ne Nat Lf E)
    (Sd : Side w z s.heap H I D E t kvs c) (LH : @Ne Nat Lf H)
    (hR : ∀ h' tk t' kvs' c', Step z (I :: D :: E :: Lf :: taddrs t) s.heap h' → (∀ m, s.heap.Ns Lf m → h'.Ns Lf m) → Side w z h' H I D E t' kvs' c' → (∀ a ∈ taddrs t', a ∈ taddrs t) → (take = true → c'.length = c.length - 1) →
      R (.ok (.ret (.bool true))) { s with heap := h', toks := tk }) :
    codeAny (model Challenge.rw_bf0021_01.row.prog w) (Ar dp un gd outer) (.call (.ref 208) ⟨[.ref H, .ref E, .bool take], []⟩) R s := by
  have nL : Lf ∉ taddrs t := fun hm => Nat.lt_irrefl _ (Nat.lt_of_lt_of_le zL (Sd.hs.tr.le _ hm))
  have only : ∀ b ∈ I :: D :: E :: Lf :: taddrs t, z ≤ b → s.heap.get? b ≠ some emptyDict := by
    simp only [List.mem_cons]
    rintro b (q | q | q | q | q) hz
    · subst q; exact absurd hz (Nat.not_le.mpr Sd.hs.zI)
    · subst q; exact absurd hz (Nat.not_le.mpr Sd.hs.zD)
    · subst q; exact absurd hz (Nat.not_le.mpr Sd.zE)
    · subst q; exact absurd hz (Nat.not_le.mpr zL)
    · exact Sd.hs.tr.notDict b q hz
  obtain ⟨oE, hvs, hE1, hE2, hE3⟩ := Sd.hE
  have ET : ∀ t', (∀ a ∈ taddrs t', a ∈ taddrs t) → E ∉ taddrs t' := fun t' _ => fun hm => by
    rename_i q
    exact absurd (Sd.hs.tr.le _ (q _ hm)) (Nat.not_le.mpr Sd.zE)
  cases t with
  | none =>
    have hc : c = [] := List.length_eq_zero_iff.mp (by have := Sd.perm.length_eq; simpa [titems] using this)
    subst hc
    have hv : hvs = [] := by
      have := (flat_get hE3).1
      exact List.length_eq_zero_iff.mp (by simpa using this)
    subst hv
    have keep : ∀ h', s.heap.UpToSlots h' → (∀ b o, s.heap.get? b = some o → b ∉ outer.filterMap (·.frame) → h'.get? b = some o) → ∀ tk, R (.ok (.ret (.bool true))) { s with heap := h', toks := tk } := by
      intro h' up kp tk
      rw [hout] at kp
      have St : Step z [Lf] s.heap h' := ⟨kp, by simp only [List.mem_singleton, forall_eq]; exact fun q => absurd q (Nat.not_le.mpr zL)⟩
      refine hR h' tk none kvs [] (St.mono (by simp) only) (fun m hm => up.ns hm) (Sd.step St ?_) (by simp [taddrs]) (fun _ => rfl)
      simp only [List.mem_singleton, forall_eq]
      exact ⟨LH, LI, LD, LE, nL⟩
    cases take with
    | true => exact least_none_true G S₀ hdp hun hsz g0H g0I g0D g0E Sd.hs hE1 hE2 Sd.loE hFF (by rw [hout]; simpa using Ne.symm LE) (by rw [hout]; simpa using g0L) fun h' tk up kp => keep h' up kp tk
    | false => exact least_none_false G S₀ hdp hun hsz g0H g0I g0D g0E Sd.hs hE1 hE2 Sd.loE hFF (by rw [hout]; simpa using Ne.symm LE) (by rw [hout]; simpa using g0L) fun h' tk up kp => keep h' up kp tk
  | some tp =>
    have nE : E ∉ I :: D :: tp.addrs := by
      simp only [List.mem_cons, not_or]
      exact ⟨Sd.EI, Sd.ED, fun hm => absurd (Sd.hs.tr.le _ hm) (Nat.not_le.mpr Sd.zE)⟩
    cases take with
    | false =>
      refine least_look G S₀ hdp hun hsz g0H g0I g0D g0E Sd.hs hE1 hE2 hE3 Sd.loE nE Sd.perm fun h' tk kp => ?_
      have St : Step z [] s.heap h' := ⟨fun b o e _ => kp b o e, by simp⟩
      exact hR h' tk _ kvs c (St.mono (by simp) only) (fun m hm => ns_step hm St (by simp)) (Sd.step St (by simp)) (fun _ q => q) (by simp)
    | true =>
      refine least_take G S₀ hdp hun hsz g0H g0I g0D g0E Sd.hs hE1 hE2 hE3 Sd.loE nE Sd.perm Sd.EH Sd.zE fun h' tk t' oE' hvs' St hs' pt hE' hEo' hEf' => ?_
      have hcp : c.Perm ((tp.k, tp.v) :: (tp.l.items.map fun p => (p.2.1, p.2.2))) := Sd.perm
      have dp := del_perm Sd.nd hcp
      refine hR h' tk t' _ (kdyDel c tp.k) (St.mono ?_ only) (fun m hm => ns_step hm St ?_) ⟨hs', ⟨oE', hvs', hE', hEo', hEf'⟩, Sd.loE, Sd.EH, Sd.EI, Sd.ED, Sd.zE, dp.trans (pt.map (fun p : Nat × Int × Int => (p.2.1, p.2.2))).symm, fun p hp => Sd.dom p (List.mem_filter.mp hp).1⟩ ?_ ?_
      · simp only [List.mem_cons, taddrs]
        rintro b (q | q | q | q)
        · exact .inl q
        · exact .inr (.inl q)
        · exact .inr (.inr (.inl q))
        · exact .inr (.inr (.inr (.inr q)))
      · simp only [List.mem_cons, not_or]
        exact ⟨LI, LD, LE, nL⟩
      · intro a ha
        rw [taddrs_items] at ha
        have h1 := (pt.map (·.1)).mem_iff.mp ha
        rw [← B.addrs_items] at h1
        exact List.mem_cons_of_mem _ h1
      · intro _
        have e1 := dp.length_eq
        have e2 := hcp.length_eq
        simp only [List.length_cons] at e2
        omega
end
end
end
section
open PySem PySem.W PyProof.Rows PySem.Calls
section
section
variable {prog : Program} {w : World} {A : Around} {s : Shared} {env : Env} {R : Result → Shared → Prop}
theorem forLoop_own {target : Expr} {body : List Stmt} {It : Addr} {fp wr : List Addr} {n : Nat} {P : Nat → Value → Prop} {St : Nat → Heap → Prop} (W : Walks prog w A It fp wr n P St) (Inv : Nat → Heap → Prop)
    (mv : ∀ i h h', Inv i h → (∀ b o, b ∉ wr → h.get? b = some o → h'.get? b = some o) → Inv i h') (h0 : Inv 0 s.heap) (s0 : St 0 s.heap)
    (turn : ∀ i v h tk, i < n → P i v → Inv i h → St (i + 1) h → wpAny (model prog w) A (assign target env v) (fun _ s₂ => wpAny (model prog w) A (execs body env)
      (fun f s₃ => f = .next ∧ ∃ h' tk', s₃ = { s with heap := h', toks := tk' } ∧ Inv (i + 1) h' ∧ St (i + 1) h') (fun _ _ => False) s₂) (fun _ _ => False) { s with heap := h, toks := tk })
    (done : ∀ h tk, Inv n h → R (.ok .next) { s with heap := h, toks := tk }) (ht : ∀ v, letOwnedTupleGo target (.ref It) v = pure ()) :
    codeAny (model prog w) A (.forLoop target (.ref It) body [] env) R s := by
  refine codeAny_forLoop (fun k s' => ∃ i h tk, s' = { s with heap := h, toks := tk } ∧ i ≤ n ∧ k = n - i ∧ Inv i h ∧ St i h) ?_ n ⟨0, s.heap, s.toks, rfl, Nat.zero_le _, rfl, h0, s0⟩ ht
  rintro k s' ⟨i, h, tk, rfl, hi, rfl, hinv, hst⟩
  by_cases hlt : i < n
  · refine W.item i _ _ _ hlt hst fun v h' tk' hP hst' hk => ?_
    refine wpAny_mono (turn i v h' tk' hlt hP (mv i h h' hinv hk) hst') (fun _ s₂ h₂ => ?_) fun _ _ q => q.elim
    refine wpAny_mono h₂ (fun f s₃ h₃ => ?_) fun _ _ q => q.elim
    obtain ⟨rfl, h3, tk3, rfl, hi3, hs3⟩ := h₃
    exact ⟨n - (i + 1), Nat.sub_lt_sub_left hlt (Nat.lt_succ_self i), i + 1, h3, tk3, rfl, hlt, rfl, hi3, hs3⟩
  · obtain rfl : i = n := Nat.le_antisymm hi (Nat.not_lt.mp hlt)
    refine W.done _ _ _ hst fun h' tk' hk => ?_
    exact wpAny_execs_nil (done h' tk' (mv i h h' hinv hk))
end
end
end
section
open PySem PySem.W PyProof.Rows PySem.Calls
section
section
variable {w : World} {h₀ h hF : Heap} {z L : Nat}

theorem TreeAt.alive {t : Option Tp} (r : TreeAt z h t) : ∀ a ∈ taddrs t, h.get? a ≠ none := fun a ha e => by
  obtain ⟨_, _, _, _, _, _, c⟩ := r.cell a ha
  obtain ⟨_, _, _, _, _, e', _⟩ := c
  rw [e] at e'; cases e'

theorem fin_turn {H I D E H' I' D' E' : Nat} {t t2 t' : Option Tp} {kvs kvs' : List (Int × Value)} {c c' : List (Int × Int)} (hL : h₀.objs.size ≤ L) (zL : L < z)
    (lt : ∀ b ∈ [H, I, D, E, H', I', D', E'], L < b ∧ b < z) (nd : ∀ b ∈ [H', I', D', E'], b ≠ I ∧ b ≠ D ∧ b ≠ E)
    (S₀ : h₀.StaysIn h) (Sd : Side w z h H I D E t kvs c) (Sd' : Side w z h H' I' D' E' t' kvs' c') (dj : ∀ a ∈ taddrs t, a ∉ taddrs t')
    (St : Step z (L :: E :: I :: D :: taddrs t) h hF) (sub : ∀ a ∈ taddrs t2, a ∈ taddrs t ∨ h.get? a = none) :
    h₀.StaysIn hF ∧ (∀ (b : Nat) o, h.get? b = some o → b < z → b ≠ L → b ≠ E → b ≠ I → b ≠ D → hF.get? b = some o) ∧ Side w z hF H' I' D' E' t' kvs' c' ∧ (∀ a ∈ taddrs t2, a ∉ taddrs t') := by
  simp only [List.mem_cons, List.not_mem_nil, or_false, forall_eq_or_imp, forall_eq] at lt nd
  have tz : ∀ a ∈ taddrs t, z ≤ a := Sd.hs.tr.le
  have tz' : ∀ a ∈ taddrs t', z ≤ a := Sd'.hs.tr.le
  have kp : ∀ (b : Nat) o, h.get? b = some o → b < z → b ≠ L → b ≠ E → b ≠ I → b ≠ D → hF.get? b = some o := fun b o e hb n1 n2 n3 n4 => St.keep b o e (by
    simp only [List.mem_cons, not_or]
    exact ⟨n1, n2, n3, n4, fun hm => Nat.lt_irrefl _ (Nat.lt_of_lt_of_le hb (tz _ hm))⟩)
  refine ⟨fun b o e => ?_, kp, Sd'.step St ?_, fun a ha => ?_⟩
  · have hb : b < L := Nat.lt_of_lt_of_le (Heap.lt_size e) hL
    exact kp b o (S₀ b o e) (Nat.lt_trans hb zL) (Nat.ne_of_lt hb) (Nat.ne_of_lt (Nat.lt_trans hb lt.2.2.2.1.1)) (Nat.ne_of_lt (Nat.lt_trans hb lt.2.1.1)) (Nat.ne_of_lt (Nat.lt_trans hb lt.2.2.1.1))
  · simp only [List.mem_cons]
    obtain ⟨⟨lH, zH⟩, ⟨lI, zI⟩, ⟨lD, zD⟩, ⟨lE, zE⟩, ⟨lH', zH'⟩, ⟨lI', zI'⟩, ⟨lD', zD'⟩, ⟨lE', zE'⟩⟩ := lt
    obtain ⟨⟨a1, a2, a3⟩, ⟨b1, b2, b3⟩, ⟨c1, c2, c3⟩, ⟨d1, d2, d3⟩⟩ := nd
    have nt : ∀ {b : Nat}, b < z → b ∉ taddrs t' := fun hb hm => Nat.lt_irrefl _ (Nat.lt_of_lt_of_le hb (tz' _ hm))
    rintro b (rfl | rfl | rfl | rfl | hb)
    · exact ⟨Nat.ne_of_lt lH', Nat.ne_of_lt lI', Nat.ne_of_lt lD', Nat.ne_of_lt lE', nt zL⟩
    · exact ⟨Ne.symm a3, Ne.symm b3, Ne.symm c3, Ne.symm d3, nt zE⟩
    · exact ⟨Ne.symm a1, Ne.symm b1, Ne.symm c1, Ne.symm d1, nt zI⟩
    · exact ⟨Ne.symm a2, Ne.symm b2, Ne.symm c2, Ne.symm d2, nt zD⟩
    · have hz := tz b hb
      exact ⟨Nat.ne_of_gt (Nat.lt_of_lt_of_le zH' hz), Nat.ne_of_gt (Nat.lt_of_lt_of_le zI' hz), Nat.ne_of_gt (Nat.lt_of_lt_of_le zD' hz), Nat.ne_of_gt (Nat.lt_of_lt_of_le zE' hz), dj b hb⟩
  · rcases sub a ha with q | q
    · exact dj a q
    · exact fun hm => Sd'.hs.tr.alive a hm q

theorem ground_frame {mean : ExcName → Option Value} {mg mb : Str → Option Value} {m : Str → Option Value}
    (X : (Mine.hd.heap_39 w.params).In h₀) (T : Top Mine.hd.view_39 LS mean mg mb h₀) (S₀ : h₀.StaysIn h) (hL : h₀.objs.size ≤ L) (zL : L < z) (ns : h.Ns L m) :
    ∃ g, Gd w mean mg mb g z ∧ g.StaysIn h ∧ g.objs.size ≤ h.objs.size ∧ (∀ b : Nat, L < b → g.get? b = none) ∧
      ∀ {dp un : Nat} {gd : Option (List Code)} {cn : Str} {nms : List (Str × NameKind)} {ig ic : Bool} {fa : Nat} {ccd : Value}, Below (Ar dp un gd [envOf cn { kind := .function, names := nms, isGenerator := ig, isCoroutine := ic } L fa ccd]) h₀ [envOf cn { kind := .function, names := nms, isGenerator := ig, isCoroutine := ic } L fa ccd] g := by
  have st : h₀.StaysIn (truncH h (L + 1)) := fun b o e => trunc_get (S₀ b o e) (Nat.lt_succ_of_lt (Nat.lt_of_lt_of_le (Heap.lt_size e) hL))
  have nsT : (truncH h (L + 1)).Ns L m := by
    obtain ⟨o, es, ep, ho, r⟩ := ns
    exact ⟨o, es, ep, trunc_get ho (Nat.lt_succ_self L), r⟩
  have nL : h₀.get? L = none := by
    cases q : h₀.get? L with
    | none => rfl
    | some o => exact absurd (Nat.lt_of_lt_of_le (Heap.lt_size q) hL) (Nat.lt_irrefl _)
  refine ⟨truncH h (L + 1), ⟨X.keeps st, T.keeps st, Nat.le_trans (trunc_size h _) zL⟩, fun b o e => (of_trunc e).1, ?_, fun b hb => ?_, fun {_ _ _ _ _ _ _ _ _} => ⟨rfl, st, ?_⟩⟩
  · exact Nat.le_trans (trunc_size h _) ns.lt
  · cases q : (truncH h (L + 1)).get? b with
    | none => rfl
    | some o => exact absurd (of_trunc q).2 (Nat.not_lt.mpr hb)
  · exact Heap.FunFrames.cons (by intro q; cases q) rfl nsT nL trivial

theorem two_step {h5 : Heap} {H I D E : Nat} {t t2 : Option Tp} {kvs kv2 : List (Int × Value)} {c : List (Int × Int)} (Sd : Side w z h H I D E t kvs c) (zL : L < z) (LH : L < H) (LI : L < I) (LD : L < D)
    (kA : ∀ (b : Nat) o, h.get? b = some o → b ≠ L → b ∉ I :: D :: taddrs t → h5.get? b = some o) (kB : ∀ (b : Nat) o, h5.get? b = some o → b ≠ L → b ≠ E → hF.get? b = some o)
    (hs5 : HS Challenge.rw_bf0021_01.row.prog w z h5 H I D t2 kv2) :
    Step z (L :: E :: I :: D :: taddrs t) h hF ∧ HS Challenge.rw_bf0021_01.row.prog w z hF H I D t2 kv2 := by
  refine ⟨⟨fun b o e n => ?_, ?_⟩, ?_⟩
  · simp only [List.mem_cons, not_or] at n
    exact kB b o (kA b o e n.1 (by simp only [List.mem_cons, not_or]; exact ⟨n.2.2.1, n.2.2.2.1, n.2.2.2.2⟩)) n.1 n.2.1
  · simp only [List.mem_cons]
    rintro b (q | q | q | q | q) hz
    · subst q; exact absurd hz (Nat.not_le.mpr zL)
    · subst q; exact absurd hz (Nat.not_le.mpr Sd.zE)
    · subst q; exact absurd hz (Nat.not_le.mpr Sd.hs.zI)
    · subst q; exact absurd hz (Nat.not_le.mpr Sd.hs.zD)
    · exact Sd.hs.tr.notDict b q hz
  · have Sx : Step z [L, E] h5 hF := ⟨fun b o e n => by
      simp only [List.mem_cons, List.not_mem_nil, or_false, not_or] at n
      exact kB b o e n.1 n.2, by
      simp only [List.mem_cons, List.not_mem_nil, or_false, forall_eq_or_imp, forall_eq]
      exact ⟨fun q => absurd q (Nat.not_le.mpr zL), fun q => absurd q (Nat.not_le.mpr Sd.zE)⟩⟩
    refine hs5.step Sx ?_
    simp only [List.mem_cons, List.not_mem_nil, or_false, forall_eq_or_imp, forall_eq]
    exact ⟨⟨Nat.ne_of_lt LH, Nat.ne_of_lt LI, Nat.ne_of_lt LD, fun hm => Nat.lt_irrefl _ (Nat.lt_of_lt_of_le zL (hs5.tr.le _ hm))⟩, Sd.EH, Sd.EI, Sd.ED, fun hm => Nat.lt_irrefl _ (Nat.lt_of_lt_of_le Sd.zE (hs5.tr.le _ hm))⟩

theorem least_step {h5 : Heap} {H I D E : Nat} {t t2 : Option Tp} {kvs kv2 : List (Int × Value)} {c c2 : List (Int × Int)} (Sd : Side w z h H I D E t kvs c) (zL : L < z) (LH : L < H) (LI : L < I) (LD : L < D) (LE : L < E)
    (kA : ∀ (b : Nat) o, h.get? b = some o → b ≠ L → b ∉ I :: D :: E :: L :: taddrs t → h5.get? b = some o) (kB : ∀ (b : Nat) o, h5.get? b = some o → b ≠ L → hF.get? b = some o)
    (S5 : Side w z h5 H I D E t2 kv2 c2) :
    Step z (L :: E :: I :: D :: taddrs t) h hF ∧ Side w z hF H I D E t2 kv2 c2 := by
  refine ⟨⟨fun b o e n => ?_, ?_⟩, ?_⟩
  · simp only [List.mem_cons, not_or] at n
    exact kB b o (kA b o e n.1 (by simp only [List.mem_cons, not_or]; exact ⟨n.2.2.1, n.2.2.2.1, n.2.1, n.1, n.2.2.2.2⟩)) n.1
  · simp only [List.mem_cons]
    rintro b (q | q | q | q | q) hz
    · subst q; exact absurd hz (Nat.not_le.mpr zL)
    · subst q; exact absurd hz (Nat.not_le.mpr Sd.zE)
    · subst q; exact absurd hz (Nat.not_le.mpr Sd.hs.zI)
    · subst q; exact absurd hz (Nat.not_le.mpr Sd.hs.zD)
    · exact Sd.hs.tr.notDict b q hz
  · have Sx : Step z [L] h5 hF := ⟨fun b o e n => by
      simp only [List.mem_cons, List.not_mem_nil, or_false] at n
      exact kB b o e n, by
      simp only [List.mem_singleton, forall_eq]
      exact fun q => absurd q (Nat.not_le.mpr zL)⟩
    refine S5.step Sx ?_
    simp only [List.mem_singleton, forall_eq]
    exact ⟨Nat.ne_of_lt LH, Nat.ne_of_lt LI, Nat.ne_of_lt LD, Nat.ne_of_lt LE, fun hm => Nat.lt_irrefl _ (Nat.lt_of_lt_of_le zL (S5.hs.tr.le _ hm))⟩

theorem put_dom {c : List (Int × Int)} {k v : Int} (h : ∀ p ∈ c, 0 ≤ p.1 ∧ p.1 < 6) (h0 : 0 ≤ k) (h6 : k < 6) : ∀ p ∈ kdfPut c k v, 0 ≤ p.1 ∧ p.1 < 6 := by
  intro p hp
  unfold kdfPut at hp
  split at hp
  · obtain ⟨q, hq, rfl⟩ := List.mem_map.mp hp
    split
    · exact h q hq
    · exact h q hq
  · rcases List.mem_append.mp hp with hp | hp
    · exact h p hp
    · simp only [List.mem_singleton] at hp
      subst hp
      exact ⟨h0, h6⟩

def TurnQ (s : Shared) (J : Heap → Prop) (f : Flow) (s₃ : Shared) : Prop := f = .next ∧ ∃ h' tk', s₃ = { s with heap := h', toks := tk' } ∧ J h'
end
section
variable {prog : Program} {w : World} {A : Around} {s : Shared} {env : Env} {R : Result → Shared → Prop}
theorem forLoop_own2 {target : Expr} {body : List Stmt} {It : Addr} {fp wr : List Addr} {n : Nat} {P : Nat → Value → Prop} {St : Nat → Heap → Prop} (W : Walks prog w A It fp wr n P St) (Inv : Nat → Heap → Prop)
    (mv : ∀ i h h', Inv i h → (∀ b o, b ∉ wr → h.get? b = some o → h'.get? b = some o) → Inv i h') (h0 : Inv 0 s.heap) (s0 : St 0 s.heap)
    (turn : ∀ i v h tk, i < n → P i v → Inv i h → St (i + 1) h → wpAny (model prog w) A (assign target env v) (fun _ s₂ => wpAny (model prog w) A (execs body env)
      (TurnQ s (fun h' => Inv (i + 1) h' ∧ St (i + 1) h')) (fun _ _ => False) s₂) (fun _ _ => False) { s with heap := h, toks := tk })
    (done : ∀ h tk, Inv n h → R (.ok .next) { s with heap := h, toks := tk }) (ht : ∀ v, letOwnedTupleGo target (.ref It) v = pure ()) :
    codeAny (model prog w) A (.forLoop target (.ref It) body [] env) R s :=
  forLoop_own W Inv mv h0 s0 (fun i v h tk hi hp hv hs => wpAny_mono (turn i v h tk hi hp hv hs) (fun _ s₂ h₂ => wpAny_mono h₂ (fun f s₃ h₃ => h₃) fun _ _ q => q) fun _ _ q => q) done ht
end
end
end
section
open PySem PySem.W PyProof.Rows PySem.Calls
section
example : True := by
  w_top off
  k_with_none
  k_with "eval Name" => (k_here; k_dflt (refine' nameX_L ?F ?v ?_ ?a ?b; (case F => k_asm); (case a => exact Eq.refl _); (case b => exact Eq.refl (some NameKind.local)); (case v => exact Eq.refl (some _)); k_whole))
  k_with "k_ne" => (refine neN ?_; (try dsimp only); first | assumption | (apply Ne.symm; assumption))
  k_with "k_inst" => (first | (refine' instR ?F ?N ?h1 ?hd ?hs; (case F => k_asm); (case N => k_asm); (case h1 => k_mem); (case hd => assumption); (case hs => (intro p9 h9; repeat (first | exact h9 | refine List.Mem.tail _ ?_)))) | fail "instR")
  k_with "k_all" => (first | assumption | fail "k_all")
  k_with "k_handed" => (assumption)
  k_with "call ref" => (with_reducible show wpAny _ _ (PySem.call (Value.ref 184) _ _) _ _ _; refine Hold.mk ?_)
  k_with "call ref" => (with_reducible show wpAny _ _ (PySem.call (Value.ref 191) _ _) _ _ _; refine Hold.mk ?_)
  k_with "call ref" => (with_reducible show wpAny _ _ (PySem.call (Value.ref 198) _ _) _ _ _; refine Hold.mk ?_)
  k_with "getMethod ref" => (k_here; k_dflt (refine' kdg_method (knd := PySem.intKind _ _) ?N ?hp ?hd ?_; (case N => k_asm); (case hp => k_mem); (case hd => assumption); k_whole))
  k_with "call builtin:dict.get" => (k_here; k_dflt (refine' kdg_get1 (knd := PySem.intKind _ _) ?N ?hp ?hd ?lo (intKind_is _ _ _ _) _ ?hl ?_; (case N => k_asm); (case hp => k_mem); (case hd => assumption); (case lo => assumption); (case hl => assumption); k_whole); (try dsimp only [Option.getD]))
  k_with "delItem ref int" => (k_here; k_dflt (refine' kob_del (knd := PySem.intKind _ _) ?F ?N ?U ?d (intKind_is _ _ _ _) ?l ?z ?_; (case F => k_asm); (case N => k_asm); (case U => k_updF); (case d => assumption); (case l => assumption); (case z => assumption)); intro _ _ _ _ _; (try k_sweep))
  k_with "compareOp In int ref" => (k_here; k_dflt (refine' kda_in (knd := PySem.intKind _ _) ?N ?hp ?hd ?lo (intKind_is _ _ _ _) _ ?hl ?_; (case N => k_asm); (case hp => k_mem); (case hd => assumption); (case lo => assumption); (case hl => assumption); k_whole))
  k_with "call builtin:len" => (k_here; k_dflt (refine' kda_len (knd := PySem.intKind _ _) ?N ?hp ?hd ?lo ?hl ?_; (case N => k_asm); (case hp => k_mem); (case hd => assumption); (case lo => assumption); (case hl => assumption); k_whole))
  k_with "k_room" => ((try simp only [depth_under_make, depth_under_kw, depth_in1, depth_deeper, depth_caller, depth_mark]); (try dsimp only); first | exact room_le (b := 1) (by assumption) (by decide) | exact room_le (b := 2) (by assumption) (by decide) | exact room_le (b := 3) (by assumption) (by decide) | exact room_le (b := 4) (by assumption) (by decide))
  trivial
set_option maxRecDepth 100000
set_option maxHeartbeats 8000000



section
variable {w : World} {dp un : Nat} {gd : Option (List Code)} {outer : List Env} {mean : ExcName → Option Value} {mg mb : Str → Option Value} {g0 base : Heap} {z : Nat} {R : Result → Shared → Prop} {s : Shared} {self : Value}

theorem get_none_1 {H I D : Nat} {t : Option Tp} {k : Int} {kt : Tok} {dv : Value} {kvs : List (Int × Value)} (G : Gd w mean mg mb g0 z) (S₀ : g0.StaysIn s.heap) (hdp : dp + 40 < recursionLimit)
    (hsz : g0.objs.size ≤ s.heap.objs.size) (g0H : g0.get? H = none) (g0I : g0.get? I = none) (g0D : g0.get? D = none)
    (hs : HS Challenge.rw_bf0021_01.row.prog w z s.heap H I D t kvs) (hk : valueAt kvs k = none)
    (hR : ∀ h' tk, (∀ b o, s.heap.get? b = some o → h'.get? b = some o) → R (.ok (.ret .none)) { s with heap := h', toks := tk }) :
    codeAny (model Challenge.rw_bf0021_01.row.prog w) (Ar dp un gd outer) (.call (.ref 169) ⟨[.ref H, .int k kt], []⟩) R s := by
  have XS := G.X.keeps S₀
  have TS := G.T.keeps S₀
  k_dflt (refine' enterF XS TS.nolimit ?k1 ?k2 ?k3 ?k4 ?k5 ?k6 ?c1 ?c2 ?c3 ?c4;
          (case k1 => k_is);
          (case k2 => k_is);
          (case k3 => simp only []; omega);
          (case k4 => first | exact BindsTo.of_eq rfl | exact binds_K (by k_in) rfl (by k_is) rfl rfl rfl);
          (case k5 => exact locs rfl);
          (case c1 => exact rfl);
          (case c2 => exact rfl);
          (case c3 => exact rfl);
          (case c4 => decide))
  intro L h₁ tk₁ ns₁ hL ks₁
  have hLz : g0.objs.size ≤ L := Nat.le_trans hsz hL
  have lt : ∀ {b o}, s.heap.get? b = some o → b < L := fun e => Nat.lt_of_lt_of_le (Heap.lt_size e) hL
  have h0n : ∀ {b : Nat}, z ≤ b → g0.get? b = none := fun {b} hb => by
    cases e : g0.get? b with
    | none => rfl
    | some o => exact absurd (Nat.lt_of_lt_of_le (Heap.lt_size e) G.sz) (Nat.not_lt.mpr hb)
  have hidz : H < z := hs.zH
  obtain ⟨hH, ⟨q1, q2, u1, u2, hI⟩, ⟨oD, hD, hDo⟩, lo, hID, hHD, zH, zI, zD, tr, ord, nd, keys, small⟩ := hs
  have htl : ∀ p ∈ [(H, instObj 201 I), (I, hdict q1 q2 u1 u2 D (tptr t)), (D, oD)], h₁.get? p.1 = some p.2 := all3 (ks₁ _ _ hH) (ks₁ _ _ hI) (ks₁ _ _ hD)
  obtain ⟨g, rest, F, N, Sg, hne, _, _, uns⟩ := focus (fun b o e => ks₁ b o (S₀ b o e)) hLz ns₁ [(H, instObj 201 I), (I, hdict q1 q2 u1 u2 D (tptr t)), (D, oD)]
    htl (all3 (Nat.ne_of_lt (lt hH)) (Nat.ne_of_lt (lt hI)) (Nat.ne_of_lt (lt hD))) (all3 g0H g0I g0D)
  have X := G.X.keeps Sg
  have T := G.T.keeps Sg
  simp only [List.cons_append, List.nil_append] at N
  (try dsimp only)
  with_reducible show wpAny _ _ _ _ _ _
  k_fold
  k_steps
  with_reducible rename Fr _ _ _ _ => F1
  with_reducible rename News _ _ _ _ => N1
  have hu := keepAll (uns _ _ F1 (newsTail (newsTail (newsTail N1)))) N1 htl
  exact hR _ _ (fun b o e => hu b o (ks₁ b o e) (Nat.ne_of_lt (lt e)) (by simp))

theorem get_some_1 {H I D a : Nat} {lc : Loc} {k v0 : Int} {kt : Tok} {l : B} {dv : Value} {kvs : List (Int × Value)} (G : Gd w mean mg mb g0 z) (S₀ : g0.StaysIn s.heap) (hdp : dp + 40 < recursionLimit)
    (hsz : g0.objs.size ≤ s.heap.objs.size) (g0H : g0.get? H = none) (g0I : g0.get? I = none) (g0D : g0.get? D = none)
    (hs : HS Challenge.rw_bf0021_01.row.prog w z s.heap H I D (some (lc.fill a k v0 l)) kvs) (hk : valueAt kvs k = some (.ref a))
    (hR : ∀ h' tk vt, (∀ b o, s.heap.get? b = some o → h'.get? b = some o) → R (.ok (.ret (.int v0 vt))) { s with heap := h', toks := tk }) :
    codeAny (model Challenge.rw_bf0021_01.row.prog w) (Ar dp un gd outer) (.call (.ref 169) ⟨[.ref H, .int k kt], []⟩) R s := by
  have XS := G.X.keeps S₀
  have TS := G.T.keeps S₀
  k_dflt (refine' enterF XS TS.nolimit ?k1 ?k2 ?k3 ?k4 ?k5 ?k6 ?c1 ?c2 ?c3 ?c4;
          (case k1 => k_is);
          (case k2 => k_is);
          (case k3 => simp only []; omega);
          (case k4 => first | exact BindsTo.of_eq rfl | exact binds_K (by k_in) rfl (by k_is) rfl rfl rfl);
          (case k5 => exact locs rfl);
          (case c1 => exact rfl);
          (case c2 => exact rfl);
          (case c3 => exact rfl);
          (case c4 => decide))
  intro L h₁ tk₁ ns₁ hL ks₁
  have hLz : g0.objs.size ≤ L := Nat.le_trans hsz hL
  have lt : ∀ {b o}, s.heap.get? b = some o → b < L := fun e => Nat.lt_of_lt_of_le (Heap.lt_size e) hL
  have h0n : ∀ {b : Nat}, z ≤ b → g0.get? b = none := fun {b} hb => by
    cases e : g0.get? b with
    | none => rfl
    | some o => exact absurd (Nat.lt_of_lt_of_le (Heap.lt_size e) G.sz) (Nat.not_lt.mpr hb)
  have hidz : H < z := hs.zH
  obtain ⟨hH, ⟨q1, q2, u1, u2, hI⟩, ⟨oD, hD, hDo⟩, lo, hID, hHD, zH, zI, zD, tr, ord, nd, keys, small⟩ := hs
  obtain ⟨nx, pa, pr, ⟨ad, akt, avt, az, adz, ag, agd⟩, rl, rL⟩ := topC_loc.mp tr
  have htl : ∀ p ∈ [(H, instObj 201 I), (I, hdict q1 q2 u1 u2 D (tptr (some (lc.fill a k v0 l)))), (D, oD), (a, nodeObj ad (.int k akt) (.int v0 avt) pr pa nx l.ptr)], h₁.get? p.1 = some p.2 := all4 (ks₁ _ _ hH) (ks₁ _ _ hI) (ks₁ _ _ hD) (ks₁ _ _ ag)
  obtain ⟨g, rest, F, N, Sg, hne, _, _, uns⟩ := focus (fun b o e => ks₁ b o (S₀ b o e)) hLz ns₁ [(H, instObj 201 I), (I, hdict q1 q2 u1 u2 D (tptr (some (lc.fill a k v0 l)))), (D, oD), (a, nodeObj ad (.int k akt) (.int v0 avt) pr pa nx l.ptr)]
    htl (all4 (Nat.ne_of_lt (lt hH)) (Nat.ne_of_lt (lt hI)) (Nat.ne_of_lt (lt hD)) (Nat.ne_of_lt (lt ag))) (all4 g0H g0I g0D (h0n az))
  have X := G.X.keeps Sg
  have T := G.T.keeps Sg
  simp only [List.cons_append, List.nil_append] at N
  have nDz : ∀ {x : Nat}, x < z → ad ≠ x := fun hx e => Nat.lt_irrefl _ (Nat.lt_of_lt_of_le hx (e ▸ adz))
  have eb : ∀ h' m', Fr g L h' m' → News g L h' rest → h'.get? ad = some emptyDict := fun h' m' F' N' => uns h' m' F' N' ad _ (ks₁ _ _ agd) (Nat.ne_of_lt (lt agd)) (by simpa using ⟨nDz zH, nDz zI, nDz zD, nDict ag agd⟩)
  (try dsimp only)
  with_reducible show wpAny _ _ _ _ _ _
  k_fold
  k_steps
  with_reducible rename Fr _ _ _ _ => F1
  with_reducible rename News _ _ _ _ => N1
  have hu := keepAll (uns _ _ F1 (newsTail (newsTail (newsTail (newsTail N1))))) N1 htl
  exact hR _ _ avt (fun b o e => hu b o (ks₁ b o e) (Nat.ne_of_lt (lt e)) (by simp))

theorem get_none_2 {H I D : Nat} {t : Option Tp} {k : Int} {kt : Tok} {dv : Value} {kvs : List (Int × Value)} (G : Gd w mean mg mb g0 z) (S₀ : g0.StaysIn s.heap) (hdp : dp + 40 < recursionLimit)
    (hsz : g0.objs.size ≤ s.heap.objs.size) (g0H : g0.get? H = none) (g0I : g0.get? I = none) (g0D : g0.get? D = none)
    (hs : HS Challenge.rw_bf0021_01.row.prog w z s.heap H I D t kvs) (hk : valueAt kvs k = none)
    (hR : ∀ h' tk, (∀ b o, s.heap.get? b = some o → h'.get? b = some o) → R (.ok (.ret dv)) { s with heap := h', toks := tk }) :
    codeAny (model Challenge.rw_bf0021_01.row.prog w) (Ar dp un gd outer) (.call (.ref 169) ⟨[.ref H, .int k kt, dv], []⟩) R s := by
  have XS := G.X.keeps S₀
  have TS := G.T.keeps S₀
  k_dflt (refine' enterF XS TS.nolimit ?k1 ?k2 ?k3 ?k4 ?k5 ?k6 ?c1 ?c2 ?c3 ?c4;
          (case k1 => k_is);
          (case k2 => k_is);
          (case k3 => simp only []; omega);
          (case k4 => first | exact BindsTo.of_eq rfl | exact binds_K (by k_in) rfl (by k_is) rfl rfl rfl);
          (case k5 => exact locs rfl);
          (case c1 => exact rfl);
          (case c2 => exact rfl);
          (case c3 => exact rfl);
          (case c4 => decide))
  intro L h₁ tk₁ ns₁ hL ks₁
  have hLz : g0.objs.size ≤ L := Nat.le_trans hsz hL
  have lt : ∀ {b o}, s.heap.get? b = some o → b < L := fun e => Nat.lt_of_lt_of_le (Heap.lt_size e) hL
  have h0n : ∀ {b : Nat}, z ≤ b → g0.get? b = none := fun {b} hb => by
    cases e : g0.get? b with
    | none => rfl
    | some o => exact absurd (Nat.lt_of_lt_of_le (Heap.lt_size e) G.sz) (Nat.not_lt.mpr hb)
  have hidz : H < z := hs.zH
  obtain ⟨hH, ⟨q1, q2, u1, u2, hI⟩, ⟨oD, hD, hDo⟩, lo, hID, hHD, zH, zI, zD, tr, ord, nd, keys, small⟩ := hs
  have htl : ∀ p ∈ [(H, instObj 201 I), (I, hdict q1 q2 u1 u2 D (tptr t)), (D, oD)], h₁.get? p.1 = some p.2 := all3 (ks₁ _ _ hH) (ks₁ _ _ hI) (ks₁ _ _ hD)
  obtain ⟨g, rest, F, N, Sg, hne, _, _, uns⟩ := focus (fun b o e => ks₁ b o (S₀ b o e)) hLz ns₁ [(H, instObj 201 I), (I, hdict q1 q2 u1 u2 D (tptr t)), (D, oD)]
    htl (all3 (Nat.ne_of_lt (lt hH)) (Nat.ne_of_lt (lt hI)) (Nat.ne_of_lt (lt hD))) (all3 g0H g0I g0D)
  have X := G.X.keeps Sg
  have T := G.T.keeps Sg
  simp only [List.cons_append, List.nil_append] at N
  (try dsimp only)
  with_reducible show wpAny _ _ _ _ _ _
  k_fold
  k_steps
  with_reducible rename Fr _ _ _ _ => F1
  with_reducible rename News _ _ _ _ => N1
  have hu := keepAll (uns _ _ F1 (newsTail (newsTail (newsTail N1)))) N1 htl
  exact hR _ _ (fun b o e => hu b o (ks₁ b o e) (Nat.ne_of_lt (lt e)) (by simp))

theorem get_some_2 {H I D a : Nat} {lc : Loc} {k v0 : Int} {kt : Tok} {l : B} {dv : Value} {kvs : List (Int × Value)} (G : Gd w mean mg mb g0 z) (S₀ : g0.StaysIn s.heap) (hdp : dp + 40 < recursionLimit)
    (hsz : g0.objs.size ≤ s.heap.objs.size) (g0H : g0.get? H = none) (g0I : g0.get? I = none) (g0D : g0.get? D = none)
    (hs : HS Challenge.rw_bf0021_01.row.prog w z s.heap H I D (some (lc.fill a k v0 l)) kvs) (hk : valueAt kvs k = some (.ref a))
    (hR : ∀ h' tk vt, (∀ b o, s.heap.get? b = some o → h'.get? b = some o) → R (.ok (.ret (.int v0 vt))) { s with heap := h', toks := tk }) :
    codeAny (model Challenge.rw_bf0021_01.row.prog w) (Ar dp un gd outer) (.call (.ref 169) ⟨[.ref H, .int k kt, dv], []⟩) R s := by
  have XS := G.X.keeps S₀
  have TS := G.T.keeps S₀
  k_dflt (refine' enterF XS TS.nolimit ?k1 ?k2 ?k3 ?k4 ?k5 ?k6 ?c1 ?c2 ?c3 ?c4;
          (case k1 => k_is);
          (case k2 => k_is);
          (case k3 => simp only []; omega);
          (case k4 => first | exact BindsTo.of_eq rfl | exact binds_K (by k_in) rfl (by k_is) rfl rfl rfl);
          (case k5 => exact locs rfl);
          (case c1 => exact rfl);
          (case c2 => exact rfl);
          (case c3 => exact rfl);
          (case c4 => decide))
  intro L h₁ tk₁ ns₁ hL ks₁
  have hLz : g0.objs.size ≤ L := Nat.le_trans hsz hL
  have lt : ∀ {b o}, s.heap.get? b = some o → b < L := fun e => Nat.lt_of_lt_of_le (Heap.lt_size e) hL
  have h0n : ∀ {b : Nat}, z ≤ b → g0.get? b = none := fun {b} hb => by
    cases e : g0.get? b with
    | none => rfl
    | some o => exact absurd (Nat.lt_of_lt_of_le (Heap.lt_size e) G.sz) (Nat.not_lt.mpr hb)
  have hidz : H < z := hs.zH
  obtain ⟨hH, ⟨q1, q2, u1, u2, hI⟩, ⟨oD, hD, hDo⟩, lo, hID, hHD, zH, zI, zD, tr, ord, nd, keys, small⟩ := hs
  obtain ⟨nx, pa, pr, ⟨ad, akt, avt, az, adz, ag, agd⟩, rl, rL⟩ := topC_loc.mp tr
  have htl : ∀ p ∈ [(H, instObj 201 I), (I, hdict q1 q2 u1 u2 D (tptr (some (lc.fill a k v0 l)))), (D, oD), (a, nodeObj ad (.int k akt) (.int v0 avt) pr pa nx l.ptr)], h₁.get? p.1 = some p.2 := all4 (ks₁ _ _ hH) (ks₁ _ _ hI) (ks₁ _ _ hD) (ks₁ _ _ ag)
  obtain ⟨g, rest, F, N, Sg, hne, _, _, uns⟩ := focus (fun b o e => ks₁ b o (S₀ b o e)) hLz ns₁ [(H, instObj 201 I), (I, hdict q1 q2 u1 u2 D (tptr (some (lc.fill a k v0 l)))), (D, oD), (a, nodeObj ad (.int k akt) (.int v0 avt) pr pa nx l.ptr)]
    htl (all4 (Nat.ne_of_lt (lt hH)) (Nat.ne_of_lt (lt hI)) (Nat.ne_of_lt (lt hD)) (Nat.ne_of_lt (lt ag))) (all4 g0H g0I g0D (h0n az))
  have X := G.X.keeps Sg
  have T := G.T.keeps Sg
  simp only [List.cons_append, List.nil_append] at N
  have nDz : ∀ {x : Nat}, x < z → ad ≠ x := fun hx e => Nat.lt_irrefl _ (Nat.lt_of_lt_of_le hx (e ▸ adz))
  have eb : ∀ h' m', Fr g L h' m' → News g L h' rest → h'.get? ad = some emptyDict := fun h' m' F' N' => uns h' m' F' N' ad _ (ks₁ _ _ agd) (Nat.ne_of_lt (lt agd)) (by simpa using ⟨nDz zH, nDz zI, nDz zD, nDict ag agd⟩)
  (try dsimp only)
  with_reducible show wpAny _ _ _ _ _ _
  k_fold
  k_steps
  with_reducible rename Fr _ _ _ _ => F1
  with_reducible rename News _ _ _ _ => N1
  have hu := keepAll (uns _ _ F1 (newsTail (newsTail (newsTail (newsTail N1))))) N1 htl
  exact hR _ _ avt (fun b o e => hu b o (ks₁ b o e) (Nat.ne_of_lt (lt e)) (by simp))

theorem len_spec {H I D : Nat} {t : Option Tp} {kvs : List (Int × Value)} (G : Gd w mean mg mb g0 z) (S₀ : g0.StaysIn s.heap) (hdp : dp + 40 < recursionLimit)
    (hsz : g0.objs.size ≤ s.heap.objs.size) (g0H : g0.get? H = none) (g0I : g0.get? I = none) (g0D : g0.get? D = none)
    (hs : HS Challenge.rw_bf0021_01.row.prog w z s.heap H I D t kvs)
    (hR : ∀ h' tk vt, (∀ b o, s.heap.get? b = some o → h'.get? b = some o) → R (.ok (.ret (.int kvs.length vt))) { s with heap := h', toks := tk }) :
    codeAny (model Challenge.rw_bf0021_01.row.prog w) (Ar dp un gd outer) (.call (.ref 117) ⟨[.ref H], []⟩) R s := by
  have XS := G.X.keeps S₀
  have TS := G.T.keeps S₀
  k_dflt (refine' enterF XS TS.nolimit ?k1 ?k2 ?k3 ?k4 ?k5 ?k6 ?c1 ?c2 ?c3 ?c4;
          (case k1 => k_is);
          (case k2 => k_is);
          (case k3 => simp only []; omega);
          (case k4 => first | exact BindsTo.of_eq rfl | exact binds_K (by k_in) rfl (by k_is) rfl rfl rfl);
          (case k5 => exact locs rfl);
          (case c1 => exact rfl);
          (case c2 => exact rfl);
          (case c3 => exact rfl);
          (case c4 => decide))
  intro L h₁ tk₁ ns₁ hL ks₁
  have hLz : g0.objs.size ≤ L := Nat.le_trans hsz hL
  have lt : ∀ {b o}, s.heap.get? b = some o → b < L := fun e => Nat.lt_of_lt_of_le (Heap.lt_size e) hL
  have h0n : ∀ {b : Nat}, z ≤ b → g0.get? b = none := fun {b} hb => by
    cases e : g0.get? b with
    | none => rfl
    | some o => exact absurd (Nat.lt_of_lt_of_le (Heap.lt_size e) G.sz) (Nat.not_lt.mpr hb)
  have hidz : H < z := hs.zH
  obtain ⟨hH, ⟨q1, q2, u1, u2, hI⟩, ⟨oD, hD, hDo⟩, lo, hID, hHD, zH, zI, zD, tr, ord, nd, keys, small⟩ := hs
  have htl : ∀ p ∈ [(H, instObj 201 I), (I, hdict q1 q2 u1 u2 D (tptr t)), (D, oD)], h₁.get? p.1 = some p.2 := all3 (ks₁ _ _ hH) (ks₁ _ _ hI) (ks₁ _ _ hD)
  obtain ⟨g, rest, F, N, Sg, hne, _, _, uns⟩ := focus (fun b o e => ks₁ b o (S₀ b o e)) hLz ns₁ [(H, instObj 201 I), (I, hdict q1 q2 u1 u2 D (tptr t)), (D, oD)]
    htl (all3 (Nat.ne_of_lt (lt hH)) (Nat.ne_of_lt (lt hI)) (Nat.ne_of_lt (lt hD))) (all3 g0H g0I g0D)
  have hkl : kvs.length ≤ 16777216 := by omega
  have X := G.X.keeps Sg
  have T := G.T.keeps Sg
  simp only [List.cons_append, List.nil_append] at N
  (try dsimp only)
  with_reducible show wpAny _ _ _ _ _ _
  k_fold
  k_steps
  with_reducible rename Fr _ _ _ _ => F1
  with_reducible rename News _ _ _ _ => N1
  have hu := keepAll (uns _ _ F1 (newsTail (newsTail (newsTail N1)))) N1 htl
  exact hR _ _ _ (fun b o e => hu b o (ks₁ b o e) (Nat.ne_of_lt (lt e)) (by simp))

theorem in_spec {H I D : Nat} {t : Option Tp} {k : Int} {kt : Tok} {b : Bool} {kvs : List (Int × Value)} (G : Gd w mean mg mb g0 z) (S₀ : g0.StaysIn s.heap) (hdp : dp + 40 < recursionLimit)
    (hsz : g0.objs.size ≤ s.heap.objs.size) (g0H : g0.get? H = none) (g0I : g0.get? I = none) (g0D : g0.get? D = none)
    (hs : HS Challenge.rw_bf0021_01.row.prog w z s.heap H I D t kvs) (hk : (valueAt kvs k).isSome = b)
    (hR : ∀ h' tk, (∀ b o, s.heap.get? b = some o → h'.get? b = some o) → R (.ok (.ret (.bool b))) { s with heap := h', toks := tk }) :
    codeAny (model Challenge.rw_bf0021_01.row.prog w) (Ar dp un gd outer) (.call (.ref 124) ⟨[.ref H, .int k kt], []⟩) R s := by
  have XS := G.X.keeps S₀
  have TS := G.T.keeps S₀
  k_dflt (refine' enterF XS TS.nolimit ?k1 ?k2 ?k3 ?k4 ?k5 ?k6 ?c1 ?c2 ?c3 ?c4;
          (case k1 => k_is);
          (case k2 => k_is);
          (case k3 => simp only []; omega);
          (case k4 => first | exact BindsTo.of_eq rfl | exact binds_K (by k_in) rfl (by k_is) rfl rfl rfl);
          (case k5 => exact locs rfl);
          (case c1 => exact rfl);
          (case c2 => exact rfl);
          (case c3 => exact rfl);
          (case c4 => decide))
  intro L h₁ tk₁ ns₁ hL ks₁
  have hLz : g0.objs.size ≤ L := Nat.le_trans hsz hL
  have lt : ∀ {b o}, s.heap.get? b = some o → b < L := fun e => Nat.lt_of_lt_of_le (Heap.lt_size e) hL
  have h0n : ∀ {b : Nat}, z ≤ b → g0.get? b = none := fun {b} hb => by
    cases e : g0.get? b with
    | none => rfl
    | some o => exact absurd (Nat.lt_of_lt_of_le (Heap.lt_size e) G.sz) (Nat.not_lt.mpr hb)
  have hidz : H < z := hs.zH
  obtain ⟨hH, ⟨q1, q2, u1, u2, hI⟩, ⟨oD, hD, hDo⟩, lo, hID, hHD, zH, zI, zD, tr, ord, nd, keys, small⟩ := hs
  have htl : ∀ p ∈ [(H, instObj 201 I), (I, hdict q1 q2 u1 u2 D (tptr t)), (D, oD)], h₁.get? p.1 = some p.2 := all3 (ks₁ _ _ hH) (ks₁ _ _ hI) (ks₁ _ _ hD)
  obtain ⟨g, rest, F, N, Sg, hne, _, _, uns⟩ := focus (fun b o e => ks₁ b o (S₀ b o e)) hLz ns₁ [(H, instObj 201 I), (I, hdict q1 q2 u1 u2 D (tptr t)), (D, oD)]
    htl (all3 (Nat.ne_of_lt (lt hH)) (Nat.ne_of_lt (lt hI)) (Nat.ne_of_lt (lt hD))) (all3 g0H g0I g0D)
  have X := G.X.keeps Sg
  have T := G.T.keeps Sg
  simp only [List.cons_append, List.nil_append] at N
  (try dsimp only)
  with_reducible show wpAny _ _ _ _ _ _
  k_fold
  k_steps
  with_reducible rename Fr _ _ _ _ => F1
  with_reducible rename News _ _ _ _ => N1
  have hu := keepAll (uns _ _ F1 (newsTail (newsTail (newsTail N1)))) N1 htl
  exact hR _ _ (fun b o e => hu b o (ks₁ b o e) (Nat.ne_of_lt (lt e)) (by simp))
end
end
end
section
open PySem PySem.W PyProof.Rows PySem.Calls
section
def Kp (h h' : Heap) : Prop := ∀ b o, h.get? b = some o → h'.get? b = some o
structure Rd (w : World) (mean : ExcName → Option Value) (mg mb : Str → Option Value) (g0 hX : Heap) (z H I D : Nat) (t : Option Tp) (kvs : List (Int × Value)) : Prop where
  G : Gd w mean mg mb g0 z
  S : g0.StaysIn hX
  sz : g0.objs.size ≤ hX.objs.size
  H0 : g0.get? H = none
  I0 : g0.get? I = none
  D0 : g0.get? D = none
  hs : HS Challenge.rw_bf0021_01.row.prog w z hX H I D t kvs
theorem Rd.kp {w : World} {mean : ExcName → Option Value} {mg mb : Str → Option Value} {g0 hX : Heap} {z H I D : Nat} {t : Option Tp} {kvs : List (Int × Value)} (_ : Rd w mean mg mb g0 hX z H I D t kvs) : Kp hX hX := fun _ _ e => e
theorem Kp.size {h h' : Heap} {g0 : Heap} (K : Kp h h') {L : Nat} {m : Str → Option Value} {g : Heap} (F : Fr g L h' m) (hz : g0.objs.size ≤ L) : g0.objs.size ≤ h'.objs.size := Nat.le_trans hz (Nat.le_of_lt F.ns.lt)
section
variable {w : World} {dp un : Nat} {gd : Option (List Code)} {outer : List Env} {mean : ExcName → Option Value} {mg mb : Str → Option Value} {g0 hX g : Heap} {z L : Nat} {m : Str → Option Value} {news : List (Addr × Obj)} {Q : Value → Shared → Prop} {E : Value → Shared → Prop} {s : Shared} {H I D : Nat} {t : Option Tp} {kvs : List (Int × Value)} {k : Int} {kt : Tok}
theorem rd_get_none_1 (rd : Rd w mean mg mb g0 hX z H I D t kvs) (K : Kp hX s.heap) (hk : valueAt kvs k = none) (F : Fr g L s.heap m) (N : News g L s.heap news) (hd : dp + 40 < recursionLimit) (hz : g0.objs.size ≤ L)
    (h : ∀ h' tk, Fr g L h' m → News g L h' news → Kp hX h' → Q .none { s with heap := h', toks := tk }) :
    wpAny (model Challenge.rw_bf0021_01.row.prog w) (Ar dp un gd outer) (call (.ref 169) [.ref H, .int k kt]) Q E s :=
  wpAny_call (get_none_1 (dv := .none) rd.G (fun b o e => K b o (rd.S b o e)) hd (K.size F hz) rd.H0 rd.I0 rd.D0 (rd.hs.keep K) hk fun h' tk kp => h h' tk (F.keeps kp) (N.grown kp) fun b o e => kp b o (K b o e))
theorem rd_get_none_2 {dv : Value} (rd : Rd w mean mg mb g0 hX z H I D t kvs) (K : Kp hX s.heap) (hk : valueAt kvs k = none) (F : Fr g L s.heap m) (N : News g L s.heap news) (hd : dp + 40 < recursionLimit) (hz : g0.objs.size ≤ L)
    (h : ∀ h' tk, Fr g L h' m → News g L h' news → Kp hX h' → Q dv { s with heap := h', toks := tk }) :
    wpAny (model Challenge.rw_bf0021_01.row.prog w) (Ar dp un gd outer) (call (.ref 169) [.ref H, .int k kt, dv]) Q E s :=
  wpAny_call (get_none_2 (dv := dv) rd.G (fun b o e => K b o (rd.S b o e)) hd (K.size F hz) rd.H0 rd.I0 rd.D0 (rd.hs.keep K) hk fun h' tk kp => h h' tk (F.keeps kp) (N.grown kp) fun b o e => kp b o (K b o e))
theorem rd_get_some_1 {lc : Loc} {a : Nat} {v0 : Int} {l : B} (rd : Rd w mean mg mb g0 hX z H I D (some (lc.fill a k v0 l)) kvs) (K : Kp hX s.heap) (hk : valueAt kvs k = some (.ref a)) (F : Fr g L s.heap m) (N : News g L s.heap news) (hd : dp + 40 < recursionLimit) (hz : g0.objs.size ≤ L)
    (h : ∀ h' tk vt, Fr g L h' m → News g L h' news → Kp hX h' → Q (.int v0 vt) { s with heap := h', toks := tk }) :
    wpAny (model Challenge.rw_bf0021_01.row.prog w) (Ar dp un gd outer) (call (.ref 169) [.ref H, .int k kt]) Q E s :=
  wpAny_call (get_some_1 (dv := .none) rd.G (fun b o e => K b o (rd.S b o e)) hd (K.size F hz) rd.H0 rd.I0 rd.D0 (rd.hs.keep K) hk fun h' tk vt kp => h h' tk vt (F.keeps kp) (N.grown kp) fun b o e => kp b o (K b o e))
theorem rd_get_some_2 {lc : Loc} {a : Nat} {v0 : Int} {l : B} {dv : Value} (rd : Rd w mean mg mb g0 hX z H I D (some (lc.fill a k v0 l)) kvs) (K : Kp hX s.heap) (hk : valueAt kvs k = some (.ref a)) (F : Fr g L s.heap m) (N : News g L s.heap news) (hd : dp + 40 < recursionLimit) (hz : g0.objs.size ≤ L)
    (h : ∀ h' tk vt, Fr g L h' m → News g L h' news → Kp hX h' → Q (.int v0 vt) { s with heap := h', toks := tk }) :
    wpAny (model Challenge.rw_bf0021_01.row.prog w) (Ar dp un gd outer) (call (.ref 169) [.ref H, .int k kt, dv]) Q E s :=
  wpAny_call (get_some_2 (dv := dv) rd.G (fun b o e => K b o (rd.S b o e)) hd (K.size F hz) rd.H0 rd.I0 rd.D0 (rd.hs.keep K) hk fun h' tk vt kp => h h' tk vt (F.keeps kp) (N.grown kp) fun b o e => kp b o (K b o e))

def GV (look : Option Int) (dv gv : Value) : Prop := (look = none ∧ gv = dv) ∨ ∃ v t, look = some v ∧ gv = .int v t
theorem GV.none {dv gv : Value} (h : GV .none dv gv) : gv = dv := by
  rcases h with ⟨_, e⟩ | ⟨v, t, e, _⟩
  · exact e
  · cases e
theorem GV.some {v : Int} {dv gv : Value} (h : GV (.some v) dv gv) : ∃ t, gv = .int v t := by
  rcases h with ⟨e, _⟩ | ⟨v, t, e, e2⟩
  · cases e
  · cases e; exact ⟨t, e2⟩
def LookIn (look : Option Int) (t : Option Tp) (kvs : List (Int × Value)) (k : Int) : Prop := (look = none ∧ valueAt kvs k = none) ∨ ∃ lc a v0 l, look = some v0 ∧ t = some (Loc.fill lc a k v0 l) ∧ valueAt kvs k = some (.ref a)
theorem rd_get_1 {look : Option Int} (rd : Rd w mean mg mb g0 hX z H I D t kvs) (lk : LookIn look t kvs k) (K : Kp hX s.heap) (F : Fr g L s.heap m) (N : News g L s.heap news) (hd : dp + 40 < recursionLimit) (hz : g0.objs.size ≤ L)
    (h : ∀ h' tk gv, GV look .none gv → Fr g L h' m → News g L h' news → Kp hX h' → Q gv { s with heap := h', toks := tk }) :
    wpAny (model Challenge.rw_bf0021_01.row.prog w) (Ar dp un gd outer) (call (.ref 169) [.ref H, .int k kt]) Q E s := by
  rcases lk with ⟨e, hk⟩ | ⟨lc, a, v0, l, e, et, hk⟩
  · exact rd_get_none_1 rd K hk F N hd hz fun h' tk F N K => h h' tk _ (.inl ⟨e, rfl⟩) F N K
  · subst et; exact rd_get_some_1 rd K hk F N hd hz fun h' tk vt F N K => h h' tk _ (.inr ⟨v0, vt, e, rfl⟩) F N K
theorem rd_get_2 {look : Option Int} {dv : Value} (rd : Rd w mean mg mb g0 hX z H I D t kvs) (lk : LookIn look t kvs k) (K : Kp hX s.heap) (F : Fr g L s.heap m) (N : News g L s.heap news) (hd : dp + 40 < recursionLimit) (hz : g0.objs.size ≤ L)
    (h : ∀ h' tk gv, GV look dv gv → Fr g L h' m → News g L h' news → Kp hX h' → Q gv { s with heap := h', toks := tk }) :
    wpAny (model Challenge.rw_bf0021_01.row.prog w) (Ar dp un gd outer) (call (.ref 169) [.ref H, .int k kt, dv]) Q E s := by
  rcases lk with ⟨e, hk⟩ | ⟨lc, a, v0, l, e, et, hk⟩
  · exact rd_get_none_2 rd K hk F N hd hz fun h' tk F N K => h h' tk _ (.inl ⟨e, rfl⟩) F N K
  · subst et; exact rd_get_some_2 rd K hk F N hd hz fun h' tk vt F N K => h h' tk _ (.inr ⟨v0, vt, e, rfl⟩) F N K

theorem rd_in {b : Bool} (rd : Rd w mean mg mb g0 hX z H I D t kvs) (K : Kp hX s.heap) (hk : (valueAt kvs k).isSome = b) (X : (Mine.hd.heap_39 w.params).In g) (F : Fr g L s.heap m) (N : News g L s.heap news) (hd : dp + 40 < recursionLimit) (hz : g0.objs.size ≤ L)
    (h : ∀ h' tk, Fr g L h' m → News g L h' news → Kp hX h' → Q (.bool b) { s with heap := h', toks := tk }) :
    wpAny (model Challenge.rw_bf0021_01.row.prog w) (Ar dp un gd outer) (compareOp .In (.int k kt) (.ref H)) Q E s := by
  obtain ⟨q1, q2, u1, u2, hI⟩ := rd.hs.hI
  refine in_K (f := 124) F X (x := H) (ox := instObj 201 I) (C := 201) (od := some (hdict q1 q2 u1 u2 D (tptr t))) ⟨K _ _ rd.hs.hH, rfl, rfl, K _ _ hI⟩ (by k_is) (by k_is) ?_
  refine wpAny_call (in_spec rd.G (fun b o e => K b o (rd.S b o e)) hd (K.size F hz) rd.H0 rd.I0 rd.D0 (rd.hs.keep K) hk fun h' tk kp => ?_)
  exact wpAny_truthy_bool (h h' tk (F.keeps kp) (N.grown kp) fun b o e => kp b o (K b o e))
theorem rd_len (rd : Rd w mean mg mb g0 hX z H I D t kvs) (K : Kp hX s.heap) (X : (Mine.hd.heap_39 w.params).In g) (F : Fr g L s.heap m) (N : News g L s.heap news) (hd : dp + 60 < recursionLimit) (hz : g0.objs.size ≤ L)
    (h : ∀ h' tk vt, Fr g L h' m → News g L h' news → Kp hX h' → Q (.int kvs.length vt) { s with heap := h', toks := tk }) :
    wpAny (model Challenge.rw_bf0021_01.row.prog w) (Ar dp un gd outer) (call (.builtin "len") [.ref H]) Q E s := by
  obtain ⟨q1, q2, u1, u2, hI⟩ := rd.hs.hI
  have hsm := rd.hs.small
  refine len_K (f := 117) F X (x := H) (ox := instObj 201 I) (C := 201) (od := some (hdict q1 q2 u1 u2 D (tptr t))) ⟨K _ _ rd.hs.hH, rfl, rfl, K _ _ hI⟩ (by k_is) (by k_is) ?_
  refine wpAny_call (len_spec (t := t) rd.G (fun b o e => K b o (rd.S b o e)) ?_ (K.size F hz) rd.H0 rd.I0 rd.D0 (rd.hs.keep K) fun h' tk vt kp => ?_)
  · show dp + 40 < recursionLimit; omega
  · exact ⟨⟨by omega, by omega⟩, h h' _ _ (F.keeps kp) (N.grown kp) fun b o e => kp b o (K b o e)⟩
end
end
end
section
open PySem PySem.W PyProof.Rows PySem.Calls
section
inductive Inv2 (i It : Nat) (w : World) (h₀ : Heap) (z L A1 A2 E0 E1 H0 I0 D0 H1 I1 D1 : Nat) (h : Heap) : Prop
  | mk (S : h₀.StaysIn h) (ns : ∃ m, h.Ns L m ∧ m (Str.ofString "heaps") = some (.ref A1) ∧ m (Str.ofString "kept") = some (.ref A2))
    (a1 : h.get? A1 = some (PySem.W.listOf #[.ref H0, .ref H1] 0)) (a2 : h.get? A2 = some (PySem.W.listOf #[.ref E0, .ref E1] 0))
    (t0 : Option Tp) (k0 : List (Int × Value)) (c0 : List (Int × Int)) (t1 : Option Tp) (k1 : List (Int × Value)) (c1 : List (Int × Int)) (s0 : Side w z h H0 I0 D0 E0 t0 k0 c0) (s1 : Side w z h H1 I1 D1 E1 t1 k1 c1) (dj : ∀ a ∈ taddrs t0, a ∉ taddrs t1)
    (l0 : c0.length ≤ 6 - i) (l1 : c1.length ≤ 6 - i) (n0 : It ∉ taddrs t0) (n1 : It ∉ taddrs t1)
theorem Inv2.move {i It : Nat} {w : World} {h₀ : Heap} {z L A1 A2 E0 E1 H0 I0 D0 H1 I1 D1 : Nat} {h h' : Heap} (hL : h₀.objs.size ≤ L) (LI : L < It) (ne : ∀ b ∈ [H0, I0, D0, E0, H1, I1, D1, E1, A1, A2], b ≠ It)
    (v : Inv2 i It w h₀ z L A1 A2 E0 E1 H0 I0 D0 H1 I1 D1 h) (nd : h.get? It ≠ some emptyDict) (kp : ∀ (b : Nat) o, b ≠ It → h.get? b = some o → h'.get? b = some o) : Inv2 i It w h₀ z L A1 A2 E0 E1 H0 I0 D0 H1 I1 D1 h' := by
  obtain ⟨S₀, ⟨m, ns, mh, mk⟩, hA1, hA2, t0, kv0, c0, t1, kv1, c1, Sd0, Sd1, dj, l0, l1, n0, n1⟩ := v
  simp only [List.mem_cons, List.not_mem_nil, or_false, forall_eq_or_imp, forall_eq] at ne
  obtain ⟨nH0, nI0, nD0, nE0, nH1, nI1, nD1, nE1, nA1, nA2⟩ := ne
  have Sx : Step z [It] h h' := ⟨fun b o e n => kp b o (by simpa using n) e, by simp only [List.mem_singleton, forall_eq]; exact fun _ => nd⟩
  refine ⟨fun b o e => kp b o (Nat.ne_of_lt (Nat.lt_of_lt_of_le (Heap.lt_size e) (Nat.le_trans hL (Nat.le_of_lt LI)))) (S₀ b o e), ⟨m, ns_step ns Sx (by simpa using Nat.ne_of_lt LI), mh, mk⟩, kp _ _ nA1 hA1, kp _ _ nA2 hA2, t0, kv0, c0, t1, kv1, c1, Sd0.step Sx ?_, Sd1.step Sx ?_, dj, l0, l1, n0, n1⟩
  · simp only [List.mem_singleton, forall_eq]
    exact ⟨nH0.symm, nI0.symm, nD0.symm, nE0.symm, n0⟩
  · simp only [List.mem_singleton, forall_eq]
    exact ⟨nH1.symm, nI1.symm, nD1.symm, nE1.symm, n1⟩
theorem one_less {a b i : Nat} (h : a = b - 1) (k : b ≤ 6 - i) : a ≤ 6 - (i + 1) := by rw [h, ← Nat.sub_sub]; exact Nat.sub_le_sub_right k 1
theorem range_ne_empty {h : Heap} {It : Nat} {x l st : Int} (e : IsRangeIter h It x l st) : h.get? It ≠ some emptyDict := by
  intro q
  have e' : h.get? It = some _ := e
  rw [e'] at q
  have q2 := congrArg (fun o : Option Obj => match o with | some o => o.cls | none => .type "") q
  simp at q2
section
variable {prog : Program} {w : World} {A : Around} {s : Shared} {env : Env} {R : Result → Shared → Prop}
theorem forLoop_own3 {target : Expr} {body : List Stmt} {It : Addr} {fp wr : List Addr} {n : Nat} {P : Nat → Value → Prop} {St : Nat → Heap → Prop} (W : Walks prog w A It fp wr n P St) (Inv : Nat → Heap → Prop)
    (mv : ∀ i h h', Inv i h → St i h → (∀ b o, b ∉ wr → h.get? b = some o → h'.get? b = some o) → Inv i h') (h0 : Inv 0 s.heap) (s0 : St 0 s.heap)
    (turn : ∀ i v h tk, i < n → P i v → Inv i h → St (i + 1) h → wpAny (model prog w) A (assign target env v) (fun _ s₂ => wpAny (model prog w) A (execs body env)
      (TurnQ s (fun h' => Inv (i + 1) h' ∧ St (i + 1) h')) (fun _ _ => False) s₂) (fun _ _ => False) { s with heap := h, toks := tk })
    (done : ∀ h tk, Inv n h → R (.ok .next) { s with heap := h, toks := tk }) (ht : ∀ v, letOwnedTupleGo target (.ref It) v = pure ()) :
    codeAny (model prog w) A (.forLoop target (.ref It) body [] env) R s := by
  refine codeAny_forLoop (fun k s' => ∃ i h tk, s' = { s with heap := h, toks := tk } ∧ i ≤ n ∧ k = n - i ∧ Inv i h ∧ St i h) ?_ n ⟨0, s.heap, s.toks, rfl, Nat.zero_le _, rfl, h0, s0⟩ ht
  rintro k s' ⟨i, h, tk, rfl, hi, rfl, hinv, hst⟩
  by_cases hlt : i < n
  · refine W.item i _ _ _ hlt hst fun v h' tk' hP hst' hk => ?_
    refine wpAny_mono (turn i v h' tk' hlt hP (mv i h h' hinv hst hk) hst') (fun _ s₂ h₂ => ?_) fun _ _ q => q.elim
    refine wpAny_mono h₂ (fun f s₃ h₃ => ?_) fun _ _ q => q.elim
    obtain ⟨rfl, h3, tk3, rfl, hi3, hs3⟩ := h₃
    exact ⟨n - (i + 1), Nat.sub_lt_sub_left hlt (Nat.lt_succ_self i), i + 1, h3, tk3, rfl, hlt, rfl, hi3, hs3⟩
  · obtain rfl : i = n := Nat.le_antisymm hi (Nat.not_lt.mp hlt)
    refine W.done _ _ _ hst fun h' tk' hk => ?_
    exact wpAny_execs_nil (done h' tk' (mv i h h' hinv hst hk))
end
structure Fx (h₀ : Heap) (z L y A1 A2 Sl E0 E1 H0 I0 D0 H1 I1 D1 : Nat) : Prop where
  hL : h₀.objs.size ≤ L
  zL : L < z
  yz : z ≤ y + 1
  ap0 : ∀ b ∈ [y, A1, A2, Sl], b < z ∧ L < b ∧ b ≠ E0 ∧ b ≠ I0 ∧ b ≠ D0 ∧ b ≠ H0
  ap1 : ∀ b ∈ [y, A1, A2, Sl], b < z ∧ L < b ∧ b ≠ E1 ∧ b ≠ I1 ∧ b ≠ D1 ∧ b ≠ H1
  lt0 : ∀ b ∈ [H0, I0, D0, E0], L < b ∧ b < z
  lt1 : ∀ b ∈ [H1, I1, D1, E1], L < b ∧ b < z
  xx : ∀ b ∈ [H1, I1, D1, E1], b ≠ H0 ∧ b ≠ I0 ∧ b ≠ D0 ∧ b ≠ E0
theorem ap_of {b E I D H z L A : Nat} (bz : b < z) (LA : L < A) (Ab : A ≤ b) (nE : b ≠ E) (i : I < A) (d : D < A) (h : H < A) : b < z ∧ L < b ∧ b ≠ E ∧ b ≠ I ∧ b ≠ D ∧ b ≠ H :=
  ⟨bz, Nat.lt_of_lt_of_le LA Ab, nE, Nat.ne_of_gt (Nat.lt_of_lt_of_le i Ab), Nat.ne_of_gt (Nat.lt_of_lt_of_le d Ab), Nat.ne_of_gt (Nat.lt_of_lt_of_le h Ab)⟩
theorem ap_all {y A1 A2 Sl E I D H z L : Nat} (yz : y < z) (LA : L < A1) (ae : A1 < E) (ea : E < A2) (as : A2 < Sl) (sy : Sl < y) (i : I < A1) (d : D < A1) (h : H < A1) :
    ∀ b ∈ [y, A1, A2, Sl], b < z ∧ L < b ∧ b ≠ E ∧ b ≠ I ∧ b ≠ D ∧ b ≠ H := by
  have h1 := Nat.lt_trans ae ea
  have h2 := Nat.lt_trans h1 as
  have h3 := Nat.lt_trans h2 sy
  have e2 := Nat.lt_trans ea as
  simp only [List.mem_cons, List.not_mem_nil, or_false, forall_eq_or_imp, forall_eq]
  exact ⟨ap_of yz LA (Nat.le_of_lt h3) (Nat.ne_of_gt (Nat.lt_trans e2 sy)) i d h, ap_of (Nat.lt_trans h3 yz) LA (Nat.le_refl _) (Nat.ne_of_lt ae) i d h, ap_of (Nat.lt_trans (Nat.lt_trans as sy) yz) LA (Nat.le_of_lt h1) (Nat.ne_of_gt ea) i d h, ap_of (Nat.lt_trans sy yz) LA (Nat.le_of_lt h2) (Nat.ne_of_gt e2) i d h⟩
theorem Fx.of {h₀ : Heap} {L y A1 A2 Sl E0 E1 H0 I0 D0 H1 I1 D1 : Nat} (hL : h₀.objs.size ≤ L) (o0 : L < H0 ∧ L < I0 ∧ L < D0) (o1 : L < H1 ∧ L < I1 ∧ L < D1)
    (a : H1 < A1 ∧ I1 < A1 ∧ D1 < A1 ∧ H0 < A1 ∧ I0 < A1 ∧ D0 < A1) (e0 : A1 < E0) (e1 : E0 < E1) (a2 : E1 < A2) (sl : A2 < Sl) (sy : Sl < y)
    (n : (H1 ≠ H0 ∧ H1 ≠ I0 ∧ H1 ≠ D0) ∧ (I1 ≠ H0 ∧ I1 ≠ I0 ∧ I1 ≠ D0) ∧ (D1 ≠ H0 ∧ D1 ≠ I0 ∧ D1 ≠ D0)) : Fx h₀ (y + 1) L y A1 A2 Sl E0 E1 H0 I0 D0 H1 I1 D1 := by
  obtain ⟨p1, p2, p3⟩ := o0
  obtain ⟨q1, q2, q3⟩ := o1
  obtain ⟨r1, r2, r3, r4, r5, r6⟩ := a
  have LA := Nat.lt_trans p1 r4
  have yz : y < y + 1 := Nat.lt_succ_self y
  have e1z : E1 < y + 1 := Nat.lt_trans (Nat.lt_trans (Nat.lt_trans a2 sl) sy) yz
  have e0z := Nat.lt_trans e1 e1z
  have az := Nat.lt_trans e0 e0z
  have ae1 := Nat.lt_trans e0 e1
  refine ⟨hL, Nat.lt_trans LA az, Nat.le_refl _, ap_all yz LA e0 (Nat.lt_trans e1 a2) sl sy r5 r6 r4, ap_all yz LA ae1 a2 sl sy r2 r3 r1, ?_, ?_, ?_⟩
  all_goals simp only [List.mem_cons, List.not_mem_nil, or_false, forall_eq_or_imp, forall_eq]
  · exact ⟨⟨p1, Nat.lt_trans r4 az⟩, ⟨p2, Nat.lt_trans r5 az⟩, ⟨p3, Nat.lt_trans r6 az⟩, ⟨Nat.lt_trans LA e0, e0z⟩⟩
  · exact ⟨⟨q1, Nat.lt_trans r1 az⟩, ⟨q2, Nat.lt_trans r2 az⟩, ⟨q3, Nat.lt_trans r3 az⟩, ⟨Nat.lt_trans LA ae1, e1z⟩⟩
  · obtain ⟨⟨n1, n2, n3⟩, ⟨n4, n5, n6⟩, ⟨n7, n8, n9⟩⟩ := n
    exact ⟨⟨n1, n2, n3, Nat.ne_of_lt (Nat.lt_trans r1 e0)⟩, ⟨n4, n5, n6, Nat.ne_of_lt (Nat.lt_trans r2 e0)⟩, ⟨n7, n8, n9, Nat.ne_of_lt (Nat.lt_trans r3 e0)⟩,
      ⟨Nat.ne_of_gt (Nat.lt_trans r4 ae1), Nat.ne_of_gt (Nat.lt_trans r5 ae1), Nat.ne_of_gt (Nat.lt_trans r6 ae1), Nat.ne_of_gt e1⟩⟩
inductive Sides (w : World) (z E0 E1 H0 I0 D0 H1 I1 D1 : Nat) (h : Heap) : Prop
  | mk (t0 : Option Tp) (k0 : List (Int × Value)) (c0 : List (Int × Int)) (t1 : Option Tp) (k1 : List (Int × Value)) (c1 : List (Int × Int)) (s0 : Side w z h H0 I0 D0 E0 t0 k0 c0) (s1 : Side w z h H1 I1 D1 E1 t1 k1 c1) (dj : ∀ a ∈ taddrs t0, a ∉ taddrs t1)
inductive Inv (w : World) (h₀ : Heap) (z L y A1 A2 E0 E1 H0 I0 D0 H1 I1 D1 : Nat) (h : Heap) : Prop
  | mk (S : h₀.StaysIn h) (ns : ∃ m, h.Ns L m ∧ m (Str.ofString "heaps") = some (.ref A1) ∧ m (Str.ofString "kept") = some (.ref A2))
    (a1 : h.get? A1 = some (PySem.W.listOf #[.ref H0, .ref H1] 0)) (a2 : h.get? A2 = some (PySem.W.listOf #[.ref E0, .ref E1] 0)) (sd : Sides w z E0 E1 H0 I0 D0 H1 I1 D1 h)
structure Tn (w : World) (h₀ : Heap) (z L y A1 A2 Sl E0 E1 H0 I0 D0 H1 I1 D1 : Nat) (x : Int) (h : Heap) (Hs Is Ds Es : Nat) (ts : Option Tp) (ks : List (Int × Value)) (cs : List (Int × Int)) : Prop where
  hL : h₀.objs.size ≤ L
  zL : L < z
  hxH : (#[.ref H0, .ref H1] : Array Value)[x.toNat]? = some (.ref Hs)
  hxE : (#[.ref E0, .ref E1] : Array Value)[x.toNat]? = some (.ref Es)
  S₀ : h₀.StaysIn h
  hA1 : h.get? A1 = some (PySem.W.listOf #[.ref H0, .ref H1] 0)
  hA2 : h.get? A2 = some (PySem.W.listOf #[.ref E0, .ref E1] 0)
  Sd : Side w z h Hs Is Ds Es ts ks cs
  ap : ∀ b ∈ [y, A1, A2, Sl], b < z ∧ L < b ∧ b ≠ Es ∧ b ≠ Is ∧ b ≠ Ds ∧ b ≠ Hs
  lt : ∀ b ∈ [Hs, Is, Ds, Es], L < b ∧ b < z
  back : ∀ h' t k c, Step z (L :: Es :: Is :: Ds :: taddrs ts) h h' → Side w z h' Hs Is Ds Es t k c → (∀ a ∈ taddrs t, a ∈ taddrs ts ∨ h.get? a = none) →
    h₀.StaysIn h' ∧ (∀ (b : Nat) o, h.get? b = some o → b < z → b ≠ L → b ≠ Es → b ≠ Is → b ≠ Ds → h'.get? b = some o) ∧
    Sides w z E0 E1 H0 I0 D0 H1 I1 D1 h'
inductive Turned (w : World) (h₀ : Heap) (z L y A1 A2 Sl E0 E1 H0 I0 D0 H1 I1 D1 : Nat) (x : Int) (h : Heap) : Prop
  | mk (m : Str → Option Value) (Hs Is Ds Es : Nat) (ts : Option Tp) (ks : List (Int × Value)) (cs : List (Int × Int)) (ns : h.Ns L m) (mh : m (Str.ofString "heaps") = some (.ref A1)) (mk : m (Str.ofString "kept") = some (.ref A2))
    (T : Tn w h₀ z L y A1 A2 Sl E0 E1 H0 I0 D0 H1 I1 D1 x h Hs Is Ds Es ts ks cs)
theorem Inv.turned {w : World} {h₀ : Heap} {z L y A1 A2 Sl E0 E1 H0 I0 D0 H1 I1 D1 : Nat} {x : Int} {h : Heap} (fx : Fx h₀ z L y A1 A2 Sl E0 E1 H0 I0 D0 H1 I1 D1) (x0 : 0 ≤ x) (x2 : x < 2)
    (v : Inv w h₀ z L y A1 A2 E0 E1 H0 I0 D0 H1 I1 D1 h) : Turned w h₀ z L y A1 A2 Sl E0 E1 H0 I0 D0 H1 I1 D1 x h := by
  obtain ⟨S₀, ⟨m, ns, mh, mk⟩, hA1, hA2, ⟨t0, k0, c0, t1, k1, c1, Sd0, Sd1, dj⟩⟩ := v
  obtain ⟨hL, zL, yz, ap0, ap1, lt0, lt1, xx⟩ := fx
  have ltA : ∀ b ∈ [H0, I0, D0, E0, H1, I1, D1, E1], L < b ∧ b < z := fun b hb => by
    rcases List.mem_append.mp (show b ∈ [H0, I0, D0, E0] ++ [H1, I1, D1, E1] from hb) with q | q
    · exact lt0 b q
    · exact lt1 b q
  have ltB : ∀ b ∈ [H1, I1, D1, E1, H0, I0, D0, E0], L < b ∧ b < z := fun b hb => by
    rcases List.mem_append.mp (show b ∈ [H1, I1, D1, E1] ++ [H0, I0, D0, E0] from hb) with q | q
    · exact lt1 b q
    · exact lt0 b q
  rcases (show x = 0 ∨ x = 1 by omega) with rfl | rfl
  · refine ⟨m, H0, I0, D0, E0, t0, k0, c0, ns, mh, mk, ⟨hL, zL, rfl, rfl, S₀, hA1, hA2, Sd0, ap0, lt0, fun h' t k c St Sd sub => ?_⟩⟩
    obtain ⟨S6, kp, SdY, dj6⟩ := fin_turn hL zL ltA (fun b hb => (xx b hb).2) S₀ Sd0 Sd1 dj St sub
    exact ⟨S6, kp, ⟨t, k, c, t1, k1, c1, Sd, SdY, dj6⟩⟩
  · refine ⟨m, H1, I1, D1, E1, t1, k1, c1, ns, mh, mk, ⟨hL, zL, rfl, rfl, S₀, hA1, hA2, Sd1, ap1, lt1, fun h' t k c St Sd sub => ?_⟩⟩
    obtain ⟨S6, kp, SdY, dj6⟩ := fin_turn hL zL ltB (by
      simp only [List.mem_cons, List.not_mem_nil, or_false, forall_eq_or_imp, forall_eq] at xx ⊢
      exact ⟨⟨Ne.symm xx.2.1.1, Ne.symm xx.2.2.1.1, Ne.symm xx.2.2.2.1⟩, ⟨Ne.symm xx.2.1.2.1, Ne.symm xx.2.2.1.2.1, Ne.symm xx.2.2.2.2.1⟩, ⟨Ne.symm xx.2.1.2.2.1, Ne.symm xx.2.2.1.2.2.1, Ne.symm xx.2.2.2.2.2.1⟩, ⟨Ne.symm xx.2.1.2.2.2, Ne.symm xx.2.2.1.2.2.2, Ne.symm xx.2.2.2.2.2.2⟩⟩) S₀ Sd1 Sd0 (fun a h1 h2 => dj a h2 h1) St sub
    exact ⟨S6, kp, ⟨t0, k0, c0, t, k, c, SdY, Sd, fun a h1 h2 => dj6 a h2 h1⟩⟩
section
variable {w : World} {h₀ : Heap} {z L y A1 A2 Sl E0 E1 H0 I0 D0 H1 I1 D1 : Nat} {x : Int} {h : Heap} {Hs Is Ds Es : Nat} {ts : Option Tp} {ks : List (Int × Value)} {cs : List (Int × Int)}
theorem Tn.fin {hF : Heap} {t2 : Option Tp} {k2 : List (Int × Value)} {c2 : List (Int × Int)} {m : Str → Option Value} {i : Nat} {its : Array Value} (T : Tn w h₀ z L y A1 A2 Sl E0 E1 H0 I0 D0 H1 I1 D1 x h Hs Is Ds Es ts ks cs)
    (st : h.IsListIter y Sl i ∧ h.IsList Sl its) (ns : hF.Ns L m) (mh : m (Str.ofString "heaps") = some (.ref A1)) (mk : m (Str.ofString "kept") = some (.ref A2))
    (St : Step z (L :: Es :: Is :: Ds :: taddrs ts) h hF) (Sd : Side w z hF Hs Is Ds Es t2 k2 c2) (sub : ∀ a ∈ taddrs t2, a ∈ taddrs ts ∨ h.get? a = none) :
    Inv w h₀ z L y A1 A2 E0 E1 H0 I0 D0 H1 I1 D1 hF ∧ (hF.IsListIter y Sl i ∧ hF.IsList Sl its) := by
  obtain ⟨S6, kp, bk⟩ := T.back hF t2 k2 c2 St Sd sub
  have kq : ∀ b ∈ [y, A1, A2, Sl], ∀ o, h.get? b = some o → hF.get? b = some o := fun b hb o e => kp b o e (T.ap b hb).1 (Nat.ne_of_gt (T.ap b hb).2.1) (T.ap b hb).2.2.1 (T.ap b hb).2.2.2.1 (T.ap b hb).2.2.2.2.1
  obtain ⟨⟨o8, e8, r8⟩, ⟨o9, e9, r9⟩⟩ := st
  exact ⟨⟨S6, ⟨m, ns, mh, mk⟩, kq _ (.tail _ (.head _)) _ T.hA1, kq _ (.tail _ (.tail _ (.head _))) _ T.hA2, bk⟩, ⟨o8, kq _ (.head _) _ e8, r8⟩, ⟨o9, kq _ (.tail _ (.tail _ (.tail _ (.head _)))) _ e9, r9⟩⟩
theorem Tn.nLt (T : Tn w h₀ z L y A1 A2 Sl E0 E1 H0 I0 D0 H1 I1 D1 x h Hs Is Ds Es ts ks cs) : L ∉ taddrs ts := fun hm => Nat.lt_irrefl _ (Nat.lt_of_lt_of_le T.zL (T.Sd.hs.tr.le _ hm))
theorem Tn.own {h' g : Heap} {m : Str → Option Value} (T : Tn w h₀ z L y A1 A2 Sl E0 E1 H0 I0 D0 H1 I1 D1 x h Hs Is Ds Es ts ks cs) (F : Fr g L h' m) (Sg : h₀.StaysIn g) (k1 : ∀ (b : Nat) o, h.get? b = some o → @Ne Nat b L → h'.get? b = some o) :
    h'.Ns L m ∧ h₀.StaysIn h' ∧ Side w z h' Hs Is Ds Es ts ks cs :=
  ⟨F.ns, fun b o e => F.keep b o (Sg b o e), T.Sd.step (F := [L]) ⟨fun b o e n => k1 b o e (by simpa using n), by simp only [List.mem_singleton, forall_eq]; exact fun q => absurd q (Nat.not_le.mpr T.zL)⟩ (by
    simp only [List.mem_singleton, forall_eq]
    exact ⟨Nat.ne_of_lt (T.lt _ (.head _)).1, Nat.ne_of_lt (T.lt _ (.tail _ (.head _))).1, Nat.ne_of_lt (T.lt _ (.tail _ (.tail _ (.head _)))).1, Nat.ne_of_lt (T.lt _ (.tail _ (.tail _ (.tail _ (.head _))))).1, T.nLt⟩)⟩
theorem Tn.none (T : Tn w h₀ z L y A1 A2 Sl E0 E1 H0 I0 D0 H1 I1 D1 x h Hs Is Ds Es ts ks cs) {b : Nat} (hb : L < b) : h₀.get? b = .none := by
  cases e : h₀.get? b with
  | none => rfl
  | some o => exact absurd (Heap.lt_size e) (Nat.not_lt.mpr (Nat.le_trans T.hL (Nat.le_of_lt hb)))
theorem Tn.stays {h5 h1 : Heap} (T : Tn w h₀ z L y A1 A2 Sl E0 E1 H0 I0 D0 H1 I1 D1 x h Hs Is Ds Es ts ks cs) (k1 : ∀ (b : Nat) o, h.get? b = some o → @Ne Nat b L → h1.get? b = some o) {F : List Nat} (St : Step z F h1 h5)
    (hF : ∀ b ∈ F, b = Is ∨ b = Ds ∨ b = Es ∨ b = L ∨ b ∈ taddrs ts) : h₀.StaysIn h5 := fun b o e => by
  have hb : b < L := Nat.lt_of_lt_of_le (Heap.lt_size e) T.hL
  refine St.keep b o (k1 b o (T.S₀ b o e) (Nat.ne_of_lt hb)) fun hm => ?_
  rcases hF b hm with q | q | q | q | q
  · exact Nat.lt_irrefl b (Nat.lt_of_lt_of_le hb (q ▸ Nat.le_of_lt (T.lt Is (.tail _ (.head _))).1))
  · exact Nat.lt_irrefl b (Nat.lt_of_lt_of_le hb (q ▸ Nat.le_of_lt (T.lt Ds (.tail _ (.tail _ (.head _)))).1))
  · exact Nat.lt_irrefl b (Nat.lt_of_lt_of_le hb (q ▸ Nat.le_of_lt (T.lt Es (.tail _ (.tail _ (.tail _ (.head _))))).1))
  · exact absurd hb (q ▸ Nat.lt_irrefl _)
  · exact Nat.lt_irrefl _ (Nat.lt_of_lt_of_le (Nat.lt_trans hb T.zL) (T.Sd.hs.tr.le _ q))
end
theorem cut_assign {prog : Program} {w : World} {A : Around} {st : Stmt} {env : Env} {s : Shared} {g : Heap} {L : Nat} {m : Str → Option Value} {news : List (Addr × Obj)} {Q : Flow → Shared → Prop} {E : Value → Shared → Prop} (x : Str) (b : Bool) (F : Fr g L s.heap m) (N : News g L s.heap news)
    (h1 : ∀ Q' : Flow → Shared → Prop, (∀ h' tk', Fr g L h' (fun y => if y = x then some (.bool b) else m y) → News g L h' news → Q' .next { s with heap := h', toks := tk' }) → wpAny (model prog w) A (exec st env) (fun f s' => Hold (Q' f s')) E s)
    (h2 : ∀ h' tk', Fr g L h' (fun y => if y = x then some (.bool b) else m y) → News g L h' news → Q .next { s with heap := h', toks := tk' }) : wpAny (model prog w) A (exec st env) Q E s := h1 Q h2
theorem item_at {prog : Program} {w : World} {A : Around} {E : Value → Shared → Prop} {s : Shared} {h₀ : Heap} {L l : Addr} {news : List (Addr × Obj)} {value slice : Expr} {k : Int} {u : Tok} {a b v : Value} {c : Nat} {Q : Value → Shared → Prop} (N : News h₀ L s.heap news) (hm : (l, PySem.W.listOf #[a, b] c) ∈ news)
    (h0 : 0 ≤ k) (hf : k < 2 ^ 63) (hx : (#[a, b] : Array Value)[k.toNat]? = some v) (h : Q v s)
    (hs : subscripted slice false (.ref l) (.int k u) = operate [.ref l, .int k u] (getItem (.ref l) (.int k u))) (hg : ∀ r, letTemporaryGo value (.ref l) r = pure ()) :
    wpAny (model prog w) A (subscriptTail value slice (.ref l) (.int k u)) Q E s := item_list ⟨_, (N _ hm).1, rfl, _, rfl⟩ h0 hf hx h hs hg
end
end
section
open PySem PySem.W PyProof.Rows PySem.Calls
section
example : True := by
  w_top off
  k_with_none
  k_with "eval Name" => (k_here; k_dflt (refine' nameX_L ?F ?v ?_ ?a ?b; (case F => k_asm); (case a => exact Eq.refl _); (case b => exact Eq.refl (some NameKind.local)); (case v => exact Eq.refl (some _)); k_whole))
  k_with "k_ne" => (refine neN ?_; (try dsimp only); first | assumption | (apply Ne.symm; assumption))
  k_with "exec For Name Call cons nil" => (with_reducible show wpAny _ _ (PySem.exec (Stmt.For _ _ _ _ _) _) _ _ _; refine Hold.mk ?_)
  k_with "exec For Name Subscript cons nil" => (with_reducible show wpAny _ _ (PySem.exec (Stmt.For _ _ _ _ _) _) _ _ _; refine Hold.mk ?_)
  k_with "exec Assign" => ((with_reducible rename StopA => stop9); (with_reducible show wpAny _ _ (PySem.exec (Stmt.Assign _ _ _) _) _ _ _); refine Hold.mk ?_)
  k_with "k_inst" => (first | (refine' instR ?F ?N ?h1 ?hd ?hs; (case F => k_asm); (case N => k_asm); (case h1 => k_mem); (case hd => assumption); (case hs => (intro p9 h9; repeat (first | exact h9 | refine List.Mem.tail _ ?_)))) | fail "instR")
  k_with "k_all" => (first | assumption | fail "k_all")
  k_with "k_handed" => (assumption)
  k_with "getMethod ref" => (k_here; k_dflt (refine' kdg_method (knd := PySem.intKind _ _) ?N ?hp ?hd ?_; (case N => k_asm); (case hp => k_mem); (case hd => assumption); k_whole))
  k_with "call builtin:dict.get" => (k_here; k_dflt (refine' kdg_get1 (knd := PySem.intKind _ _) ?N ?hp ?hd ?lo (intKind_is _ _ _ _) _ ?hl ?_; (case N => k_asm); (case hp => k_mem); (case hd => assumption); (case lo => assumption); (case hl => assumption); k_whole); (try dsimp only [Option.getD]))
  k_with "eval ListComp" => (k_here; k_dflt (refine ListComp_K (F₀ := by k_asm) (by with_unfolding_all rfl) (by decide) (by rfl) (by decide) (by rfl) ?_ (by intro _; rfl)))
  k_with "call builtin:dict.pop" => (k_here; k_dflt (refine' kdy_pop (more := []) (.inl rfl) (PySem.F.args_dict_pop_2 _ _) ?F ?N ?U ?d ?f ?k ?z ?_; (case F => k_asm); (case N => k_asm); (case U => k_updF); (case d => k_asm); (case f => k_asm); (case k => assumption); (case z => assumption)); intro _ _ _ _ _ _ _ _; (try k_sweep))
  k_with "call builtin:min" => (k_here; (with_unfolding_all refine' kso_min ?k1 ?k2 ?k3 ?k4 ?k5 ?k6 ?_; (case k1 => k_asm); (case k2 => k_asm); (case k4 => assumption); (case k3 => exact ⟨_, News.get (by assumption) (.head _), rfl, _, rfl⟩); (case k5 => assumption); (case k6 => rfl); k_whole); intro _ _ _ _ _ _ _ _; (try k_sweep))
  k_with "k_room" => (((try simp only [depth_under_make, depth_under_kw, depth_in1, depth_deeper, depth_caller, depth_mark]); (try dsimp only); omega))
  k_with "k_units" => (((try simp only [units_in1, units_deeper, Around.mark_units, units_caller]); (try dsimp only); omega))
  k_with "call ref" => (with_reducible show wpAny _ _ (PySem.call (Value.ref 201) _ _) _ _ _; refine Hold.mk ?_)
  k_with "call ref" => (with_reducible show wpAny _ _ (PySem.call (Value.ref 177) _ _) _ _ _; refine Hold.mk ?_)
  k_with "call ref" => (with_reducible show wpAny _ _ (PySem.call (Value.ref 208) _ _) _ _ _; refine Hold.mk ?_)
  k_with "exec For" => (with_reducible show wpAny _ _ (PySem.exec (Stmt.For _ _ _ _ _) _) _ _ _; refine Hold.mk ?_)
  k_with "pyIter ref" => (with_reducible show wpAny _ _ (PySem.pyIter (Value.ref _)) _ _ _; refine Hold.mk ?_)
  k_with "exec If" => ((with_reducible rename StopIf => stop9); (with_reducible show wpAny _ _ (PySem.exec (Stmt.If _ _ _ _) _) _ _ _); refine Hold.mk ?_)
  k_with "compareOp NotIn int ref" => (k_here; k_dflt (refine kdf_notin (by k_tabat) ?_))
  k_with "subscriptTail" => (k_here; (with_reducible show wpAny _ _ (subscriptTail _ _ (Value.ref _) (Value.int _ _)) _ _ _); k_dflt (refine kdf_item (by k_tabat) (by assumption) ?_); intro _)
  k_with "subscriptTail" => (k_here; (with_reducible show wpAny _ _ (subscriptTail _ _ (Value.ref _) (Value.int (Int.fmod _ _) _)) _ _ _); k_dflt (refine' item_at ?N ?hm ?h0 ?hf ?hx ?_ ?hs ?hg; (case N => k_asm); (case hm => k_mem); (case h0 => assumption); (case hf => assumption); (case hx => assumption); (case hs => with_unfolding_all rfl); (case hg => intro _; with_unfolding_all rfl)))
  k_with "subscriptTail" => (k_here; (with_reducible show wpAny _ _ (subscriptTail _ _ (Value.ref _) (Value.int 0 _)) _ _ _); k_dflt (refine' item_c0 ?N ?hm ?_ ?hs ?hg; (case N => k_asm); (case hm => k_mem); (case hs => with_unfolding_all rfl); (case hg => intro _; with_unfolding_all rfl)))
  k_with "subscriptTail" => (k_here; (with_reducible show wpAny _ _ (subscriptTail _ _ (Value.ref _) (Value.int 1 _)) _ _ _); k_dflt (refine' item_c1 ?N ?hm ?_ ?hs ?hg; (case N => k_asm); (case hm => k_mem); (case hs => with_unfolding_all rfl); (case hg => intro _; with_unfolding_all rfl)))
  k_with "getMethod ref" => (k_here; k_dflt (refine' kdg_method (knd := PySem.intKind _ _) ?N ?hp ?hd ?_; (case N => k_asm); (case hp => k_mem); (case hd => assumption); k_whole))
  k_with "call builtin:dict.get" => (k_here; k_dflt (first | (refine' kdg_get2 (knd := PySem.intKind _ _) ?N ?hp ?hd ?lo (intKind_is _ _ _ _) _ ?hl ?_; (case N => k_asm); (case hp => k_mem); (case hd => assumption); (case lo => assumption); (case hl => assumption); k_whole) | (refine' kdg_get1 (knd := PySem.intKind _ _) ?N ?hp ?hd ?lo (intKind_is _ _ _ _) _ ?hl ?_; (case N => k_asm); (case hp => k_mem); (case hd => assumption); (case lo => assumption); (case hl => assumption); k_whole)); (try dsimp only [Option.getD]))
  k_with "compareOp In int ref" => (k_here; k_dflt (first | (refine' kda_in (knd := PySem.intKind _ _) ?N ?hp ?hd ?lo (intKind_is _ _ _ _) _ ?hl ?_; (case N => k_asm); (case hp => k_mem); (case hd => assumption); (case lo => assumption); (case hl => assumption)) | (refine' rd_in ?rd ?K ?hk ?X ?F ?N ?hd ?hz ?_; (case rd => assumption); (case K => assumption); (case hk => assumption); (case X => k_asm); (case F => k_asm); (case N => k_asm); (case hd => decide); (case hz => assumption); intros)))
  k_with "call builtin:len" => (k_here; k_dflt (first | (refine' kda_len (knd := PySem.intKind _ _) ?N ?hp ?hd ?lo ?hl ?_; (case N => k_asm); (case hp => k_mem); (case hd => assumption); (case lo => assumption); (case hl => assumption)) | (refine' rd_len ?rd ?K ?X ?F ?N ?hd ?hz ?_; (case rd => assumption); (case K => assumption); (case X => k_asm); (case F => k_asm); (case N => k_asm); (case hd => decide); (case hz => assumption); intros)))
  k_with "call ref" => (k_here; k_dflt (first | (refine' rd_get_1 ?rd ?lk ?K ?F ?N ?hd ?hz ?_; (case rd => assumption); (case lk => assumption); (case K => assumption); (case F => k_asm); (case N => k_asm); (case hd => decide); (case hz => assumption)) | (refine' rd_get_2 ?rd ?lk ?K ?F ?N ?hd ?hz ?_; (case rd => assumption); (case lk => assumption); (case K => assumption); (case F => k_asm); (case N => k_asm); (case hd => decide); (case hz => assumption))); intros)
  k_with "compareOp NotEq ref ref" => (with_reducible show wpAny _ _ (PySem.compareOp CmpOp.NotEq (Value.ref _) (Value.ref _)) _ _ _; (with_reducible rename StopA => stop9); refine Hold.mk ?_)
  k_with "k_room" => ((try simp only [depth_under_make, depth_under_kw, depth_in1, depth_deeper, depth_caller, depth_mark]); (try dsimp only); first | exact room_le (b := 1) (by assumption) (by decide) | exact room_le (b := 2) (by assumption) (by decide) | exact room_le (b := 3) (by assumption) (by decide) | exact room_le (b := 4) (by assumption) (by decide))
  trivial
set_option maxRecDepth 100000
set_option maxHeartbeats 8000000
def StopIf : Prop := True
def StopA : Prop := True

theorem item_c0 {prog : Program} {w : World} {A : Around} {E : Value → Shared → Prop} {s : Shared} {h₀ : Heap} {L l : Addr} {news : List (Addr × Obj)} {value slice : Expr} {u : Tok} {a b : Value} {c : Nat} {Q : Value → Shared → Prop} (N : News h₀ L s.heap news) (hm : (l, PySem.W.listOf #[a, b] c) ∈ news) (h : Q a s)
    (hs : subscripted slice false (.ref l) (.int 0 u) = operate [.ref l, .int 0 u] (getItem (.ref l) (.int 0 u))) (hg : ∀ r, letTemporaryGo value (.ref l) r = pure ()) :
    wpAny (model prog w) A (subscriptTail value slice (.ref l) (.int 0 u)) Q E s := item_list ⟨_, (N _ hm).1, rfl, _, rfl⟩ (by decide) (by decide) rfl h hs hg
theorem item_c1 {prog : Program} {w : World} {A : Around} {E : Value → Shared → Prop} {s : Shared} {h₀ : Heap} {L l : Addr} {news : List (Addr × Obj)} {value slice : Expr} {u : Tok} {a b : Value} {c : Nat} {Q : Value → Shared → Prop} (N : News h₀ L s.heap news) (hm : (l, PySem.W.listOf #[a, b] c) ∈ news) (h : Q b s)
    (hs : subscripted slice false (.ref l) (.int 1 u) = operate [.ref l, .int 1 u] (getItem (.ref l) (.int 1 u))) (hg : ∀ r, letTemporaryGo value (.ref l) r = pure ()) :
    wpAny (model prog w) A (subscriptTail value slice (.ref l) (.int 1 u)) Q E s := item_list ⟨_, (N _ hm).1, rfl, _, rfl⟩ (by decide) (by decide) rfl h hs hg

theorem fresh_self {g h : Heap} {L : Nat} {m : Str → Option Value} (F : Fr g L h m) : g.get? L = none := by
  cases q : g.get? L with
  | none => rfl
  | some o => exact absurd (Nat.lt_of_lt_of_le (Heap.lt_size q) F.above) (Nat.lt_irrefl _)
theorem fr_next {g h h' : Heap} {L : Nat} {m m' : Str → Option Value} (F : Fr g L h m) (ns : h'.Ns L m') (k : ∀ b o, h.get? b = some o → @Ne Nat b L → h'.get? b = some o) : Fr g L h' m' :=
  ⟨ns, fun b o e => k b o (F.keep b o e) fun q => (by rw [q, fresh_self F] at e; cases e), F.above⟩
theorem ne_self {h : Heap} {L b : Nat} {m : Str → Option Value} (ns : h.Ns L m) (e : h.get? b = none) : b ≠ L := by
  rintro rfl
  obtain ⟨o, _, _, ho, _⟩ := ns
  rw [e] at ho; cases ho
theorem News.mk3 {g h : Heap} {L a b c : Nat} {oa ob oc : Obj} (h1 : g.get? a = none) (h2 : g.get? b = none) (h3 : g.get? c = none) (k1 : h.get? a = some oa) (k2 : h.get? b = some ob) (k3 : h.get? c = some oc) (n1 : a ≠ L) (n2 : b ≠ L) (n3 : c ≠ L) :
    News g L h [(a, oa), (b, ob), (c, oc)] := by
  intro p hp
  simp only [List.mem_cons, List.not_mem_nil, or_false] at hp
  rcases hp with rfl | rfl | rfl
  · exact ⟨k1, n1, h1⟩
  · exact ⟨k2, n2, h2⟩
  · exact ⟨k3, n3, h3⟩
theorem News.mk6 {g h h' : Heap} {L a b c : Nat} {oa ob oc : Obj} {l : List (Addr × Obj)} (h1 : g.get? a = none) (h2 : g.get? b = none) (h3 : g.get? c = none) (k1 : h'.get? a = some oa) (k2 : h'.get? b = some ob) (k3 : h'.get? c = some oc) (n1 : a ≠ L) (n2 : b ≠ L) (n3 : c ≠ L)
    (N : News g L h l) (k : ∀ b o, h.get? b = some o → @Ne Nat b L → h'.get? b = some o) : News g L h' ((a, oa) :: (b, ob) :: (c, oc) :: l) := by
  intro p hp
  simp only [List.mem_cons] at hp
  rcases hp with rfl | rfl | rfl | hp
  · exact ⟨k1, n1, h1⟩
  · exact ⟨k2, n2, h2⟩
  · exact ⟨k3, n3, h3⟩
  · exact ⟨k _ _ (N p hp).1 (N p hp).2.1, (N p hp).2⟩

theorem flat_value {hvs : List (Int × Value)} {c : List (Int × Int)} (hf : PyProof.V.FlatPairs PyData.int hvs (kdfD c)) (nd : (hvs.map (·.1)).Nodup) {k v : Int} (h : (k, v) ∈ c) : ∃ t, valueAt hvs k = some (.int v t) := by
  induction c generalizing hvs with
  | nil => cases h
  | cons p r ih =>
    obtain ⟨k2, v2⟩ := p
    cases hf with
    | cons a b =>
      simp only [List.map_cons, List.nodup_cons] at nd
      obtain ⟨t2, rfl⟩ := PyProof.V.Flat.int_inv a
      rcases List.mem_cons.mp h with e | h
      · cases e
        exact ⟨t2, by simp [valueAt]⟩
      · obtain ⟨t, ht⟩ := ih b nd.2 h
        refine ⟨t, ?_⟩
        have hk : k ∈ List.map (·.1) r := List.mem_map_of_mem (f := (·.1)) h
        have ne : ¬ k2 = k := fun e => nd.1 (by rw [(flat_get b).2, e]; exact hk)
        rw [← ht]
        simp [valueAt, ne]


theorem Side.look {w : World} {z : Nat} {h : Heap} {H I D E : Nat} {t : Option Tp} {kvs : List (Int × Value)} {c : List (Int × Int)} (S : Side w z h H I D E t kvs c) {hvs : List (Int × Value)} (hf : PyProof.V.FlatPairs PyData.int hvs (kdfD c)) (nd : (hvs.map (·.1)).Nodup) (key : Int) :
    ∃ look : Option Int, LookIn look t kvs key ∧ (valueAt kvs key).isSome = look.isSome ∧ (valueAt hvs key).isSome = look.isSome ∧ ((look = none ∧ valueAt hvs key = none) ∨ ∃ v0 tv, look = some v0 ∧ valueAt hvs key = some (.int v0 tv)) := by
  cases hh : kdfHas c key with
  | false =>
    have va := S.key_none hh
    have vb : valueAt hvs key = none := by
      rw [valueAt_none, (flat_get hf).2]
      intro hm
      obtain ⟨p, hp, rfl⟩ := List.mem_map.mp hm
      have := (look_at S.nd (show (p.1, p.2) ∈ c from hp)).1
      rw [hh] at this; cases this
    exact ⟨none, .inl ⟨rfl, va⟩, by rw [va]; rfl, by rw [vb]; rfl, .inl ⟨rfl, vb⟩⟩
  | true =>
    obtain ⟨lc, a, v0, l, et, va, hlk, hin⟩ := S.key_some hh
    obtain ⟨tv, vb⟩ := flat_value hf nd hin
    exact ⟨some v0, .inr ⟨lc, a, v0, l, rfl, et, va⟩, by rw [va]; rfl, by rw [vb]; rfl, .inr ⟨v0, tv, rfl, vb⟩⟩

theorem ints_at' {vs : List Value} {ns : List Int} (h : IntsAre vs ns) : ∀ {i : Nat} {v : Value}, vs[i]? = some v → ∃ n t, v = .int n t := by
  induction h with
  | nil => intro i v e; simp at e
  | cons n t _ ih =>
    intro i v e
    cases i with
    | zero => simp at e; exact ⟨n, t, e.symm⟩
    | succ i => exact ih (by simpa using e)
theorem ints_at {vs : List Value} {ns : List Int} (h : IntsAre vs ns) {i : Nat} {v : Value} (e : vs.toArray[i]? = some v) : ∃ n t, v = .int n t := ints_at' h (by simpa using e)
theorem law_holds : PySem.Challenge.rw_bf0021_01.Holds := Mine.hd (by
  k_go0
  rename World => w0
  rename Shared => s1
  with_reducible rename Fr _ _ _ _ => F0
  with_reducible rename News _ _ _ _ => N0
  have ns0 := F0.ns
  have L0 := F0.above
  have K0 := F0.keep
  (all_goals try k_fold)
  k_steps
  unfold Hold
  with_reducible rename Top _ _ _ _ _ _ => T0
  rename Frag.In _ _ => X0
  have Gz := fun z hz => (Gd.mk X0 T0 hz : Gd _ _ _ _ _ z)
  refine' new_heap (dp := 1 + claimMargin) (un := 4) (outer := []) (Gz _ (Nat.le_refl _)) ?S (by decide) (by decide) (below_caller _) ?L ?n ?_
  (case S => exact K0)
  (case L => exact L0)
  (case n => exact ns0)
  intro h1 tk1 H0 I0 D0 q1 q2 u1 u2 oD0 ns1 k1 hH0 hI0 hD0 hDo0 fH0 fI0 fD0 lo0 ord0
  have nL := fresh_self F0
  have none0 := fun b e => fresh_of_stays K0 (b := b) e
  have F1 := fr_next F0 ns1 k1
  have N1 := News.mk3 (none0 _ fH0) (none0 _ fI0) (none0 _ fD0) hH0 hI0 hD0 (ne_self ns0 fH0) (ne_self ns0 fI0) (ne_self ns0 fD0)
  clear F0 N0
  k_steps
  unfold Hold
  refine' new_heap (dp := 1 + claimMargin) (un := 4) (outer := []) (Gz _ (Nat.le_refl _)) ?S (by decide) (by decide) (below_caller _) ?L ?n ?_
  (case S => exact F1.keep)
  (case L => exact L0)
  (case n => exact ns1)
  intro h2 tk2 H1 I1 D1 q3 q4 u3 u4 oD1 ns2 k2 hH1 hI1 hD1 hDo1 fH1 fI1 fD1 lo1 ord1
  have none1 := fun b e => fresh_of_stays F1.keep (b := b) e
  have F2 := fr_next F1 ns2 k2
  have N2 := News.mk6 (none1 _ fH1) (none1 _ fI1) (none1 _ fD1) hH1 hI1 hD1 (ne_self ns1 fH1) (ne_self ns1 fI1) (ne_self ns1 fD1) N1 k2
  clear F1 N1
  k_steps
  unfold Hold
  refine wpAny_For ?_
  k_steps
  unfold Hold
  rename_i A1 _ lA1 E0 _ oE0 loE0 _ _ hiE0 fiE0 lE0 E1 _ oE1 loE1 _ _ hiE1 fiE1 lE1 A2 _ lA2 Tt _ lTt _ _ _ Sl ws h3 F3 N3 hI hC hLs lSl
  refine wpAny_pyIter_list (items := ws.toArray) ⟨_, news_get N3 (.head _), rfl, 0, rfl⟩ ?_
  have sz3 : ∀ b o, h3.get? b = some o → b < h3.objs.size := fun b o e => Heap.lt_size e
  have SlI : @Ne Nat Sl h3.objs.size := Nat.ne_of_lt (sz3 _ _ (news_get N3 (.head _)))
  have fx0 : Fx s1.heap (h3.objs.size + 1) s1.heap.objs.size h3.objs.size A1 A2 Sl E0 E1 H0 I0 D0 H1 I1 D1 := by
    obtain ⟨oa1, oa2, oa3, oa4, oa5⟩ := ord0
    obtain ⟨ob1, ob2, ob3, ob4, ob5⟩ := ord1
    obtain ⟨r1, -⟩ := lE0
    obtain ⟨s1', -⟩ := lE1
    obtain ⟨t1', -⟩ := lA2
    obtain ⟨v1, v2, -⟩ := lSl
    obtain ⟨p1, p2, p3, p4, p5, p6⟩ := lA1
    have ne0 : ∀ {b c : Nat} {o : Obj}, h1.get? b = some o → h1.get? c = none → c ≠ b := fun e n q => by rw [q, e] at n; cases n
    exact Fx.of L0 ⟨oa1, oa2, oa3⟩ ⟨ob1, ob2, ob3⟩ ⟨p1, p2, p3, p4, p5, p6⟩ r1 s1' t1' v2 (sz3 _ _ (news_get N3 (.head _))) ⟨⟨ne0 hH0 fH1, ne0 hI0 fH1, ne0 hD0 fH1⟩, ⟨ne0 hH0 fI1, ne0 hI0 fI1, ne0 hD0 fI1⟩, ⟨ne0 hH0 fD1, ne0 hI0 fD1, ne0 hD0 fD1⟩⟩
  dsimp only
  refine forLoop_own2 (Walks.list rfl h3.objs.size Sl SlI ws.toArray) (fun _ h => Inv w0 s1.heap (h3.objs.size + 1) s1.heap.objs.size h3.objs.size A1 A2 E0 E1 H0 I0 D0 H1 I1 D1 h) ?mv ?h0 ?s0 ?turn ?done (by intro _; rfl)
  case mv =>
    rintro i h h' ⟨S₀, ⟨m, ns, mh, mk⟩, hA1, hA2, t0, kv0, c0, t1, kv1, c1, Sd0, Sd1, dj⟩ kp
    have kp : ∀ (b : Nat) o, b ≠ h3.objs.size → h.get? b = some o → h'.get? b = some o := fun b o n e => kp b o (by simpa using n) e
    have a0 := fx0.ap0
    have a1 := fx0.ap1
    have Ly : s1.heap.objs.size < h3.objs.size := (a0 _ (.head _)).2.1
    have Sx : Step (h3.objs.size + 1) [h3.objs.size] h h' := ⟨fun b o e n => kp b o (by simpa using n) e, by simp only [List.mem_singleton, forall_eq]; exact fun q => absurd q (Nat.not_le.mpr (Nat.lt_succ_self _))⟩
    have yA1 : A1 ≠ h3.objs.size := Nat.ne_of_lt (sz3 _ _ (news_get N3 (.tail _ (.tail _ (.tail _ (.tail _ (.tail _ (.head _))))))))
    have yA2 : A2 ≠ h3.objs.size := Nat.ne_of_lt (sz3 _ _ (news_get N3 (.tail _ (.tail _ (.head _)))))
    have nt : ∀ {t : Option Tp}, (∀ a ∈ taddrs t, h3.objs.size + 1 ≤ a) → h3.objs.size ∉ taddrs t := fun q hm => Nat.lt_irrefl _ (q _ hm)
    refine ⟨fun b o e => kp b o (Nat.ne_of_lt (Nat.lt_trans (Heap.lt_size e) Ly)) (S₀ b o e), ⟨m, ns_step ns Sx (by simpa using Nat.ne_of_lt Ly), mh, mk⟩, kp _ _ yA1 hA1, kp _ _ yA2 hA2, t0, kv0, c0, t1, kv1, c1, Sd0.step Sx ?_, Sd1.step Sx ?_, dj⟩
    · simp only [List.mem_singleton, forall_eq]
      have q := (a0 _ (.head _)).2.2
      exact ⟨q.2.2.2, q.2.1, q.2.2.1, q.1, nt Sd0.hs.tr.le⟩
    · simp only [List.mem_singleton, forall_eq]
      have q := (a1 _ (.head _)).2.2
      exact ⟨q.2.2.2, q.2.1, q.2.2.1, q.1, nt Sd1.hs.tr.le⟩
  case h0 =>
    have up : ∀ b o, h3.get? b = some o → (h3.push { cls := .type "list_iterator", data := .fields #[.ref Sl, .int 0 0] }).get? b = some o := fun b o e => Heap.get?_push_of_some _ e
    obtain ⟨oa1, oa2, oa3, oa4, oa5⟩ := ord0
    obtain ⟨ob1, ob2, ob3, ob4, ob5⟩ := ord1
    obtain ⟨p1, p2, p3, p4, p5, p6⟩ := lA1
    obtain ⟨r1, -⟩ := lE0
    obtain ⟨r2, -⟩ := lE1
    have q1' : @LT.lt Nat _ H1 A1 := p1
    have q2' : @LT.lt Nat _ I1 A1 := p2
    have q3' : @LT.lt Nat _ D1 A1 := p3
    have q4' : @LT.lt Nat _ H0 A1 := p4
    have q5' : @LT.lt Nat _ I0 A1 := p5
    have q6' : @LT.lt Nat _ D0 A1 := p6
    have q7' : @LT.lt Nat _ A1 E0 := r1
    have q8' : @LT.lt Nat _ E0 E1 := r2
    exact ⟨fun b o e => up b o (F3.keep b o e), ⟨_, F3.ns.at' fun o e => up _ o e, by rfl, by rfl⟩, up _ _ (news_get N3 (.tail _ (.tail _ (.tail _ (.tail _ (.tail _ (.head _))))))), up _ _ (news_get N3 (.tail _ (.tail _ (.head _)))), none, [], [], none, [], [],
      ⟨⟨up _ _ (news_get N3 (.tail _ (.tail _ (.tail _ (.tail _ (.tail _ (.tail _ (.tail _ (.tail _ (.tail _ (.head _))))))))))), ⟨q1, q2, u1, u2, up _ _ (news_get N3 (.tail _ (.tail _ (.tail _ (.tail _ (.tail _ (.tail _ (.tail _ (.tail _ (.tail _ (.tail _ (.head _))))))))))))⟩, ⟨_, up _ _ (news_get N3 (.tail _ (.tail _ (.tail _ (.tail _ (.tail _ (.tail _ (.tail _ (.tail _ (.tail _ (.tail _ (.tail _ (.head _))))))))))))), hDo0⟩, lo0, (by omega), (by omega), (fx0.lt0 _ (.head _)).2, (fx0.lt0 _ (.tail _ (.head _))).2, (fx0.lt0 _ (.tail _ (.tail _ (.head _)))).2, trivial, trivial, by simp [taddrs], by simp [titems], by simp⟩, ⟨_, [], up _ _ (news_get N3 (.tail _ (.tail _ (.tail _ (.tail _ (.head _)))))), hiE0, .nil⟩, loE0, (by omega), (by omega), (by omega), (fx0.lt0 _ (.tail _ (.tail _ (.tail _ (.head _))))).2, by simp [titems], by simp⟩,
      ⟨⟨up _ _ (news_get N3 (.tail _ (.tail _ (.tail _ (.tail _ (.tail _ (.tail _ (.head _)))))))), ⟨q3, q4, u3, u4, up _ _ (news_get N3 (.tail _ (.tail _ (.tail _ (.tail _ (.tail _ (.tail _ (.tail _ (.head _)))))))))⟩, ⟨_, up _ _ (news_get N3 (.tail _ (.tail _ (.tail _ (.tail _ (.tail _ (.tail _ (.tail _ (.tail _ (.head _)))))))))), hDo1⟩, lo1, (by omega), (by omega), (fx0.lt1 _ (.head _)).2, (fx0.lt1 _ (.tail _ (.head _))).2, (fx0.lt1 _ (.tail _ (.tail _ (.head _)))).2, trivial, trivial, by simp [taddrs], by simp [titems], by simp⟩, ⟨_, [], up _ _ (news_get N3 (.tail _ (.tail _ (.tail _ (.head _))))), hiE1, .nil⟩, loE1, (by omega), (by omega), (by omega), (fx0.lt1 _ (.tail _ (.tail _ (.tail _ (.head _))))).2, by simp [titems], by simp⟩, by simp [taddrs]⟩
  case s0 =>
    have hl9 : h3.IsList Sl ws.toArray := ⟨_, news_get N3 (.head _), rfl, 0, rfl⟩
    exact ⟨⟨_, Heap.get?_push_size _ rfl, rfl, rfl⟩, hl9.push _⟩
  case done =>
    intro h tk hinv
    obtain ⟨S₀, ⟨m, ns, mh, mk⟩, hA1, hA2, t0, kv0, c0, t1, kv1, c1, Sd0, Sd1, dj⟩ := hinv
    have ns := ns_at2 ns mh mk
    have none0' : ∀ {b : Nat}, s1.heap.objs.size < b → s1.heap.get? b = none := fun {b} hb => by
      cases e : s1.heap.get? b with
      | none => rfl
      | some o => exact absurd (Heap.lt_size e) (Nat.not_lt.mpr (Nat.le_of_lt hb))
    obtain ⟨hL, zL, yz, ap0, ap1, lt0, lt1, xx⟩ := fx0
    obtain ⟨g, rest, F, N, Sg, hne, _, _, uns⟩ := focus S₀ hL ns [(A1, PySem.W.listOf #[.ref H0, .ref H1] 0), (A2, PySem.W.listOf #[.ref E0, .ref E1] 0)] (all2 hA1 hA2) (all2 (Nat.ne_of_gt (ap0 A1 (.tail _ (.head _))).2.1) (Nat.ne_of_gt (ap0 A2 (.tail _ (.tail _ (.head _)))).2.1)) (all2 (none0' (ap0 A1 (.tail _ (.head _))).2.1) (none0' (ap0 A2 (.tail _ (.tail _ (.head _)))).2.1))
    have X := X0.keeps Sg
    have T := T0.keeps Sg
    simp only [List.cons_append, List.nil_append] at N
    clear lA1 lE0 lE1 lA2 lTt lSl
    dsimp only
    with_reducible show wpAny _ _ _ _ _ _
    k_steps
    unfold Hold
    refine wpAny_For ?_
    k_steps
    unfold Hold
    with_reducible rename Fr _ _ _ _ => F7
    with_reducible rename News _ _ _ _ => N7
    rename IsRange _ _ _ _ _ _ _ _ => hrg
    refine wpAny_pyIter_range hrg (by decide) ?_
    clear hrg
    rename_i h7 tk7 _ _ _ k7
    have up : ∀ b o, h.get? b = some o → (h7.push { cls := .type "range_iterator", data := .fields #[rawInt 0, rawInt (Builtin.Range.rangeSize 0 7 1), rawInt 1] }).get? b = some o := fun b o e => Heap.get?_push_of_some _ (k7 b o e)
    have old : ∀ {b : Nat} {o : Obj}, h.get? b = some o → b ≠ h7.objs.size := fun {b o} e q => Nat.lt_irrefl _ (q ▸ Heap.lt_size (k7 b o e))
    have Up : Step (h3.objs.size + 1) [] h (h7.push { cls := .type "range_iterator", data := .fields #[rawInt 0, rawInt (Builtin.Range.rangeSize 0 7 1), rawInt 1] }) := ⟨fun b o e _ => up b o e, by simp⟩
    have nLi : s1.heap.objs.size ≠ h7.objs.size := Nat.ne_of_lt F7.ns.lt
    have nt0 : h7.objs.size ∉ taddrs t0 := fun hm => by
      obtain ⟨o, e⟩ := Option.ne_none_iff_exists'.mp (Sd0.hs.tr.alive _ hm)
      exact old e rfl
    have nt1 : h7.objs.size ∉ taddrs t1 := fun hm => by
      obtain ⟨o, e⟩ := Option.ne_none_iff_exists'.mp (Sd1.hs.tr.alive _ hm)
      exact old e rfl
    have Ly : s1.heap.objs.size < h7.objs.size := F7.ns.lt
    have neI : ∀ b ∈ [H0, I0, D0, E0, H1, I1, D1, E1, A1, A2], b ≠ h7.objs.size := by
      obtain ⟨oE, hvs, hE1, -⟩ := Sd0.hE
      obtain ⟨oE', hvs', hE1', -⟩ := Sd1.hE
      obtain ⟨q1, q2, u1, u2, hI'⟩ := Sd0.hs.hI
      obtain ⟨q1', q2', u1', u2', hI''⟩ := Sd1.hs.hI
      obtain ⟨oD, hD, hDo⟩ := Sd0.hs.hD
      obtain ⟨oD', hD', hDo'⟩ := Sd1.hs.hD
      simp only [List.mem_cons, List.not_mem_nil, or_false, forall_eq_or_imp, forall_eq]
      exact ⟨old Sd0.hs.hH, old hI', old hD, old hE1, old Sd1.hs.hH, old hI'', old hD', old hE1', old hA1, old hA2⟩
    have hInv : Inv2 0 h7.objs.size w0 s1.heap (h3.objs.size + 1) s1.heap.objs.size A1 A2 E0 E1 H0 I0 D0 H1 I1 D1 (h7.push { cls := .type "range_iterator", data := .fields #[rawInt 0, rawInt (Builtin.Range.rangeSize 0 7 1), rawInt 1] }) :=
      ⟨fun b o e => up b o (S₀ b o e), ⟨_, F7.ns.at' fun o e => Heap.get?_push_of_some _ e, by rfl, by rfl⟩, up _ _ hA1, up _ _ hA2, t0, kv0, c0, t1, kv1, c1, Sd0.step Up (by simp), Sd1.step Up (by simp), dj, Sd0.len, Sd1.len, nt0, nt1⟩
    have hsz7 : 7 * 1 = 7 := rfl
    clear Up up old nt0 nt1 dj Sd0 Sd1 hA1 hA2 S₀ uns N7 k7 hne X T Sg
    dsimp only
    refine forLoop_own3 (LCg.range_walks rfl 0 7) (fun i h => Inv2 i h7.objs.size w0 s1.heap (h3.objs.size + 1) s1.heap.objs.size A1 A2 E0 E1 H0 I0 D0 H1 I1 D1 h) ?mvB ?hB ?sB ?turnB ?doneB (by intro _; rfl)
    case mvB => exact fun i h h' hv hs hk => hv.move hL Ly neI (range_ne_empty hs) fun b o n e => hk b o (by simpa using n) e
    case hB => exact hInv
    case sB =>
      show IsRangeIter _ _ _ _ _
      rw [show (0:Int) + ((0:Nat):Int) * 1 = 0 from rfl, show ((7:Nat):Int) - ((0:Nat):Int) = Builtin.Range.rangeSize 0 7 1 from by decide]
      exact Heap.get?_push_size _ rfl
    case turnB =>
      clear hInv
      intro i v h tk hi hP hinv hst
      obtain ⟨t9, rfl⟩ := hP
      obtain ⟨S₀, ⟨m, ns, mh, mk⟩, hA1, hA2, t0, kv0, c0, t1, kv1, c1, Sd0, Sd1, dj, cl0, cl1, nt0, nt1⟩ := hinv
      have ns := ns_at2 ns mh mk
      have hst : IsRangeIter h h7.objs.size _ _ _ := hst
      have ex0 : ∀ b ∈ [H1, I1, D1, E1], b ≠ I0 ∧ b ≠ D0 ∧ b ≠ E0 := fun b hb => (xx b hb).2
      have ex1 : ∀ b ∈ [H0, I0, D0, E0], b ≠ I1 ∧ b ≠ D1 ∧ b ≠ E1 := by
        simp only [List.mem_cons, List.not_mem_nil, or_false, forall_eq_or_imp, forall_eq] at xx ⊢
        exact ⟨⟨Ne.symm xx.2.1.1, Ne.symm xx.2.2.1.1, Ne.symm xx.2.2.2.1⟩, ⟨Ne.symm xx.2.1.2.1, Ne.symm xx.2.2.1.2.1, Ne.symm xx.2.2.2.2.1⟩, ⟨Ne.symm xx.2.1.2.2.1, Ne.symm xx.2.2.1.2.2.1, Ne.symm xx.2.2.2.2.2.1⟩, ⟨Ne.symm xx.2.1.2.2.2, Ne.symm xx.2.2.1.2.2.2, Ne.symm xx.2.2.2.2.2.2⟩⟩
      have ltA0 : ∀ b ∈ [H0, I0, D0, E0, H1, I1, D1, E1], s1.heap.objs.size < b ∧ b < h3.objs.size + 1 := fun b hb => by
        rcases List.mem_append.mp (show b ∈ [H0, I0, D0, E0] ++ [H1, I1, D1, E1] from hb) with q | q
        · exact lt0 b q
        · exact lt1 b q
      have ltA1 : ∀ b ∈ [H1, I1, D1, E1, H0, I0, D0, E0], s1.heap.objs.size < b ∧ b < h3.objs.size + 1 := fun b hb => by
        rcases List.mem_append.mp (show b ∈ [H1, I1, D1, E1] ++ [H0, I0, D0, E0] from hb) with q | q
        · exact lt1 b q
        · exact lt0 b q
      have LH0 : s1.heap.objs.size < H0 := (lt0 _ (.head _)).1
      have LI0 : s1.heap.objs.size < I0 := (lt0 _ (.tail _ (.head _))).1
      have LD0 : s1.heap.objs.size < D0 := (lt0 _ (.tail _ (.tail _ (.head _)))).1
      have LE0 : s1.heap.objs.size < E0 := (lt0 _ (.tail _ (.tail _ (.tail _ (.head _))))).1
      have LH1 : s1.heap.objs.size < H1 := (lt1 _ (.head _)).1
      have LI1 : s1.heap.objs.size < I1 := (lt1 _ (.tail _ (.head _))).1
      have LD1 : s1.heap.objs.size < D1 := (lt1 _ (.tail _ (.tail _ (.head _)))).1
      have LE1 : s1.heap.objs.size < E1 := (lt1 _ (.tail _ (.tail _ (.tail _ (.head _))))).1
      have nLt0 : s1.heap.objs.size ∉ taddrs t0 := fun hm => Nat.lt_irrefl _ (Nat.lt_of_lt_of_le zL (Sd0.hs.tr.le _ hm))
      have htl : ∀ p ∈ [(A1, PySem.W.listOf #[.ref H0, .ref H1] 0), (A2, PySem.W.listOf #[.ref E0, .ref E1] 0)], h.get? p.1 = some p.2 := all2 hA1 hA2
      obtain ⟨g, rest, F, N, Sg, hne, _, _, uns⟩ := focus S₀ hL ns [(A1, PySem.W.listOf #[.ref H0, .ref H1] 0), (A2, PySem.W.listOf #[.ref E0, .ref E1] 0)] htl (all2 (Nat.ne_of_gt (ap0 A1 (.tail _ (.head _))).2.1) (Nat.ne_of_gt (ap0 A2 (.tail _ (.tail _ (.head _)))).2.1)) (all2 (none0' (ap0 A1 (.tail _ (.head _))).2.1) (none0' (ap0 A2 (.tail _ (.tail _ (.head _)))).2.1))
      have X := X0.keeps Sg
      have T := T0.keeps Sg
      simp only [List.cons_append, List.nil_append] at N
      clear lt0 lt1 xx
      (try dsimp only)
      with_reducible show wpAny _ _ _ _ _ _
      k_steps
      unfold Hold
      with_reducible rename Fr _ _ _ _ => F1
      with_reducible rename News _ _ _ _ => N1
      have hu1 := keepAll (uns _ _ F1 (newsTail (newsTail N1))) N1 htl
      have k1 : ∀ (b : Nat) o, h.get? b = some o → @Ne Nat b s1.heap.objs.size → _ := fun b o e n => hu1 b o e n (by simp)
      have nsA := F1.ns
      have SA : s1.heap.StaysIn _ := fun b o e => F1.keep b o (Sg b o e)
      have StA : Step (h3.objs.size + 1) [s1.heap.objs.size] h _ := ⟨fun b o e n => k1 b o e (by simpa using n), by simp only [List.mem_singleton, forall_eq]; exact fun q => absurd q (Nat.not_le.mpr zL)⟩
      have SdA := Sd0.step StA (by simp only [List.mem_singleton, forall_eq]; exact ⟨Nat.ne_of_lt LH0, Nat.ne_of_lt LI0, Nat.ne_of_lt LD0, Nat.ne_of_lt LE0, nLt0⟩)
      clear uns X T F1 N1 Sg hu1 hne
      refine wpAny_call ?_
      refine least_spec (base := s1.heap) (Lf := s1.heap.objs.size) (Gz (h3.objs.size + 1) (Nat.le_of_lt zL)) SA ?d1 ?d2 (Nat.le_of_lt nsA.lt) (none0' LH0) (none0' LI0) (none0' LD0) (none0' LE0) nL (Heap.FunFrames.cons (by intro q; cases q) rfl nsA nL trivial) rfl zL (Nat.ne_of_lt LI0) (Nat.ne_of_lt LD0) (Nat.ne_of_lt LE0) SdA (Nat.ne_of_lt LH0) ?R
      (case d1 => decide)
      (case d2 => decide)
      (case R =>
        intro h5 tk5 t2 kv2 c2 St5 nsK Sd5 sub5 len5
        have len5 := len5 rfl
        have kA : ∀ (b : Nat) o, h.get? b = some o → b ≠ s1.heap.objs.size → b ∉ I0 :: D0 :: E0 :: s1.heap.objs.size :: taddrs t0 → h5.get? b = some o := fun b o e n m => St5.keep b o (k1 b o e n) m
        have ns5 := nsK _ nsA
        obtain ⟨StF, SdX⟩ := least_step Sd0 zL LH0 LI0 LD0 LE0 kA (fun b o e _ => e) Sd5
        obtain ⟨S5, kp, SdY, dj6⟩ := fin_turn hL zL ltA0 ex0 S₀ Sd0 Sd1 dj StF (fun a ha => .inl (sub5 a ha))
        have hst5 : h5.get? h7.objs.size = some _ := StF.keep _ _ hst (by simp only [List.mem_cons, not_or]; exact ⟨Nat.ne_of_gt Ly, Ne.symm (neI _ (.tail _ (.tail _ (.tail _ (.head _))))), Ne.symm (neI _ (.tail _ (.head _))), Ne.symm (neI _ (.tail _ (.tail _ (.head _)))), nt0⟩)
        have hB1 := kp _ _ hA1 (ap0 A1 (.tail _ (.head _))).1 (Nat.ne_of_gt (ap0 A1 (.tail _ (.head _))).2.1) (ap0 A1 (.tail _ (.head _))).2.2.1 (ap0 A1 (.tail _ (.head _))).2.2.2.1 (ap0 A1 (.tail _ (.head _))).2.2.2.2.1
        have hB2 := kp _ _ hA2 (ap0 A2 (.tail _ (.tail _ (.head _)))).1 (Nat.ne_of_gt (ap0 A2 (.tail _ (.tail _ (.head _)))).2.1) (ap0 A2 (.tail _ (.tail _ (.head _)))).2.2.1 (ap0 A2 (.tail _ (.tail _ (.head _)))).2.2.2.1 (ap0 A2 (.tail _ (.tail _ (.head _)))).2.2.2.2.1
        have nt2 : h7.objs.size ∉ taddrs t2 := fun hm => nt0 (sub5 _ hm)
        have cl2 : c2.length ≤ 6 - (i + 1) := one_less len5 cl0
        clear StA SdA St5 nsA SA kA nsK Sd5 StF kp Sd0 Sd1 dj S₀ hA1 hA2 hst nt0 sub5 k1 htl ns cl0 len5 nLt0
        have nLt1 : s1.heap.objs.size ∉ taddrs t1 := fun hm => Nat.lt_irrefl _ (Nat.lt_of_lt_of_le zL (SdY.hs.tr.le _ hm))
        have htl : ∀ p ∈ [(A1, PySem.W.listOf #[.ref H0, .ref H1] 0), (A2, PySem.W.listOf #[.ref E0, .ref E1] 0)], h5.get? p.1 = some p.2 := all2 hB1 hB2
        obtain ⟨g, rest, F, N, Sg, hne, _, _, uns⟩ := focus S5 hL ns5 [(A1, PySem.W.listOf #[.ref H0, .ref H1] 0), (A2, PySem.W.listOf #[.ref E0, .ref E1] 0)] htl (all2 (Nat.ne_of_gt (ap0 A1 (.tail _ (.head _))).2.1) (Nat.ne_of_gt (ap0 A2 (.tail _ (.tail _ (.head _)))).2.1)) (all2 (none0' (ap0 A1 (.tail _ (.head _))).2.1) (none0' (ap0 A2 (.tail _ (.tail _ (.head _)))).2.1))
        have X := X0.keeps Sg
        have T := T0.keeps Sg
        simp only [List.cons_append, List.nil_append] at N
        (try dsimp only)
        with_reducible show wpAny _ _ _ _ _ _
        k_steps
        unfold Hold
        with_reducible rename Fr _ _ _ _ => F1
        with_reducible rename News _ _ _ _ => N1
        have hu1 := keepAll (uns _ _ F1 (newsTail (newsTail N1))) N1 htl
        have k1 : ∀ (b : Nat) o, h5.get? b = some o → @Ne Nat b s1.heap.objs.size → _ := fun b o e n => hu1 b o e n (by simp)
        have nsA := F1.ns
        have SA : s1.heap.StaysIn _ := fun b o e => F1.keep b o (Sg b o e)
        have StA : Step (h3.objs.size + 1) [s1.heap.objs.size] h5 _ := ⟨fun b o e n => k1 b o e (by simpa using n), by simp only [List.mem_singleton, forall_eq]; exact fun q => absurd q (Nat.not_le.mpr zL)⟩
        have SdA := SdY.step StA (by simp only [List.mem_singleton, forall_eq]; exact ⟨Nat.ne_of_lt LH1, Nat.ne_of_lt LI1, Nat.ne_of_lt LD1, Nat.ne_of_lt LE1, nLt1⟩)
        clear uns X T F1 N1 Sg hu1 hne
        refine wpAny_call ?_
        refine least_spec (base := s1.heap) (Lf := s1.heap.objs.size) (Gz (h3.objs.size + 1) (Nat.le_of_lt zL)) SA ?d1 ?d2 (Nat.le_of_lt nsA.lt) (none0' LH1) (none0' LI1) (none0' LD1) (none0' LE1) nL (Heap.FunFrames.cons (by intro q; cases q) rfl nsA nL trivial) rfl zL (Nat.ne_of_lt LI1) (Nat.ne_of_lt LD1) (Nat.ne_of_lt LE1) SdA (Nat.ne_of_lt LH1) ?R
        (case d1 => decide)
        (case d2 => decide)
        (case R =>
          intro h8 tk8 t4 kv4 c4 St8 nsK Sd8 sub8 len8
          have len8 := len8 rfl
          have kA : ∀ (b : Nat) o, h5.get? b = some o → b ≠ s1.heap.objs.size → b ∉ I1 :: D1 :: E1 :: s1.heap.objs.size :: taddrs t1 → h8.get? b = some o := fun b o e n m => St8.keep b o (k1 b o e n) m
          have ns8 := nsK _ nsA
          have S8 : s1.heap.StaysIn h8 := fun b o e => kA b o (S5 b o e) (Nat.ne_of_lt (Heap.lt_size e)) (by
            have hb : b < s1.heap.objs.size := Heap.lt_size e
            simp only [List.mem_cons, not_or]
            exact ⟨Nat.ne_of_lt (Nat.lt_trans hb LI1), Nat.ne_of_lt (Nat.lt_trans hb LD1), Nat.ne_of_lt (Nat.lt_trans hb LE1), Nat.ne_of_lt hb, fun hm => Nat.lt_irrefl _ (Nat.lt_of_lt_of_le (Nat.lt_trans hb zL) (SdY.hs.tr.le _ hm))⟩)
          have cl4 : c4.length ≤ 6 - (i + 1) := one_less len8 cl1
          clear StA SdA St8 nsA SA nsK ns5
          obtain ⟨g, rest, F, N, Sg, _, _, _, uns⟩ := focus S8 hL ns8 [] (by simp) (by simp) (by simp)
          have X := X0.keeps Sg
          have T := T0.keeps Sg
          simp only [List.nil_append] at N
          clear k1
          (try dsimp only)
          with_reducible show wpAny _ _ _ _ _ _
          k_steps
          with_reducible rename Fr _ _ _ _ => F6
          with_reducible rename News _ _ _ _ => N6
          have kB : ∀ (b : Nat) o, h8.get? b = some o → b ≠ s1.heap.objs.size → _ := fun b o e n => uns _ _ F6 N6 b o e n (by simp)
          obtain ⟨StF, SdZ⟩ := least_step SdY zL LH1 LI1 LD1 LE1 kA kB Sd8
          obtain ⟨S6, kp, SdW, dj8⟩ := fin_turn hL zL ltA1 ex1 S5 SdY SdX (fun a h1 h2 => dj6 a h2 h1) StF (fun a ha => .inl (sub8 a ha))
          have hst9 := StF.keep _ _ hst5 (by simp only [List.mem_cons, not_or]; exact ⟨Nat.ne_of_gt Ly, Ne.symm (neI _ (.tail _ (.tail _ (.tail _ (.tail _ (.tail _ (.tail _ (.tail _ (.head _))))))))), Ne.symm (neI _ (.tail _ (.tail _ (.tail _ (.tail _ (.tail _ (.head _))))))), Ne.symm (neI _ (.tail _ (.tail _ (.tail _ (.tail _ (.tail _ (.tail _ (.head _)))))))), nt1⟩)
          have hC1 := kp _ _ hB1 (ap1 A1 (.tail _ (.head _))).1 (Nat.ne_of_gt (ap1 A1 (.tail _ (.head _))).2.1) (ap1 A1 (.tail _ (.head _))).2.2.1 (ap1 A1 (.tail _ (.head _))).2.2.2.1 (ap1 A1 (.tail _ (.head _))).2.2.2.2.1
          have hC2 := kp _ _ hB2 (ap1 A2 (.tail _ (.tail _ (.head _)))).1 (Nat.ne_of_gt (ap1 A2 (.tail _ (.tail _ (.head _)))).2.1) (ap1 A2 (.tail _ (.tail _ (.head _)))).2.2.1 (ap1 A2 (.tail _ (.tail _ (.head _)))).2.2.2.1 (ap1 A2 (.tail _ (.tail _ (.head _)))).2.2.2.2.1
          exact ⟨rfl, _, _, rfl, ⟨S6, ⟨_, F6.ns, by rfl, by rfl⟩, hC1, hC2, t2, kv2, _, t4, kv4, c4, SdW, SdZ, (fun a h1 h2 => dj8 a h2 h1), cl2, cl4, nt2, fun hm => nt1 (sub8 _ hm)⟩, hst9⟩))
    case doneB =>
      clear hInv
      intro h tk hinv
      obtain ⟨S₀, ⟨m, ns, mh, mk⟩, hA1, hA2, t0, kv0, c0, t1, kv1, c1, Sd0, Sd1, dj, cl0, cl1, -, -⟩ := hinv
      have ns := ns_at2 ns mh mk
      obtain rfl : c0 = [] := List.length_eq_zero_iff.mp (Nat.le_zero.mp cl0)
      obtain rfl : c1 = [] := List.length_eq_zero_iff.mp (Nat.le_zero.mp cl1)
      obtain rfl : kv0 = [] := List.length_eq_zero_iff.mp Sd0.klen
      obtain rfl : kv1 = [] := List.length_eq_zero_iff.mp Sd1.klen
      obtain ⟨oE0', hv0, hE0, hd0, hf0⟩ := Sd0.hE
      obtain ⟨oE1', hv1, hE1, hd1, hf1⟩ := Sd1.hE
      obtain rfl : hv0 = [] := List.length_eq_zero_iff.mp ((flat_get hf0).1)
      obtain rfl : hv1 = [] := List.length_eq_zero_iff.mp ((flat_get hf1).1)
      have LH0 : s1.heap.objs.size < H0 := (lt0 _ (.head _)).1
      have LI0 : s1.heap.objs.size < I0 := (lt0 _ (.tail _ (.head _))).1
      have LD0 : s1.heap.objs.size < D0 := (lt0 _ (.tail _ (.tail _ (.head _)))).1
      have LE0 : s1.heap.objs.size < E0 := (lt0 _ (.tail _ (.tail _ (.tail _ (.head _))))).1
      have LH1 : s1.heap.objs.size < H1 := (lt1 _ (.head _)).1
      have LI1 : s1.heap.objs.size < I1 := (lt1 _ (.tail _ (.head _))).1
      have LD1 : s1.heap.objs.size < D1 := (lt1 _ (.tail _ (.tail _ (.head _)))).1
      have LE1 : s1.heap.objs.size < E1 := (lt1 _ (.tail _ (.tail _ (.tail _ (.head _))))).1
      have htl : ∀ p ∈ [(A1, PySem.W.listOf #[.ref H0, .ref H1] 0), (A2, PySem.W.listOf #[.ref E0, .ref E1] 0), (E0, oE0'), (E1, oE1')], h.get? p.1 = some p.2 := all4 hA1 hA2 hE0 hE1
      obtain ⟨g, rest, F, N, Sg, hne, _, _, uns⟩ := focus S₀ hL ns [(A1, PySem.W.listOf #[.ref H0, .ref H1] 0), (A2, PySem.W.listOf #[.ref E0, .ref E1] 0), (E0, oE0'), (E1, oE1')] htl (all4 (Nat.ne_of_gt (ap0 A1 (.tail _ (.head _))).2.1) (Nat.ne_of_gt (ap0 A2 (.tail _ (.tail _ (.head _)))).2.1) (Nat.ne_of_gt LE0) (Nat.ne_of_gt LE1)) (all4 (none0' (ap0 A1 (.tail _ (.head _))).2.1) (none0' (ap0 A2 (.tail _ (.tail _ (.head _)))).2.1) (none0' LE0) (none0' LE1))
      have X := X0.keeps Sg
      have T := T0.keeps Sg
      simp only [List.cons_append, List.nil_append] at N
      have rd0 : Rd w0 _ _ _ s1.heap _ (h3.objs.size + 1) H0 I0 D0 t0 [] := ⟨Gz _ (Nat.le_of_lt zL), S₀, Nat.le_of_lt ns.lt, none0' LH0, none0' LI0, none0' LD0, Sd0.hs⟩
      have rd1 : Rd w0 _ _ _ s1.heap _ (h3.objs.size + 1) H1 I1 D1 t1 [] := ⟨Gz _ (Nat.le_of_lt zL), S₀, Nat.le_of_lt ns.lt, none0' LH1, none0' LI1, none0' LD1, Sd1.hs⟩
      have Kp0 := rd0.kp
      have hz9 : s1.heap.objs.size ≤ s1.heap.objs.size := Nat.le_refl _
      have kl1 : ([] : List (Int × Value)).length ≤ 16777216 := by decide
      have lo0' := Sd0.loE
      have lo1' := Sd1.loE
      clear lt0 lt1 ap0 ap1 xx uns hne htl Sd0 Sd1 hE0 hE1 hf0 hf1 hA1 hA2 dj neI
      dsimp only
      with_reducible show wpAny _ _ _ _ _ _
      k_steps
      with_reducible rename Fr _ _ _ _ => FE
      have FZ := (⟨FE.ns, fun b o e => FE.keep b o (Sg b o e), hL⟩ : Fr s1.heap s1.heap.objs.size _ _)
      clear FE F N
      close_w
  case turn =>
  intro i v h tk hi hP hinv hst
  obtain ⟨n, t, rfl⟩ := ints_at hI hP
  have hi0 : 0 ≤ (n.fdiv 768).fmod 2 := Int.fmod_nonneg_of_pos _ (by decide)
  have hi2 : (n.fdiv 768).fmod 2 < 2 := Int.fmod_lt_of_pos (n.fdiv 768) (by decide)
  have hif : (n.fdiv 768).fmod 2 < 2 ^ 63 := Int.lt_of_lt_of_le hi2 (by decide)
  obtain ⟨m, Hs, Is, Ds, Es, ts, ks, cs, ns, mh, mk, Tq⟩ := hinv.turned fx0 hi0 hi2
  have ns := ns_at2 ns mh mk
  have hxH := Tq.hxH
  have hxE := Tq.hxE
  have zL := Tq.zL
  obtain ⟨oy, hy, _⟩ := id hst.1
  obtain ⟨oE, hvs, hE1, hE2, hE3⟩ := Tq.Sd.hE
  obtain ⟨hH, ⟨q1, q2, u1, u2, hI'⟩, ⟨oD, hD, hDo⟩, lo, hID, hHD, zH, zI, zD, tr, ord, nd0, keys, small⟩ := Tq.Sd.hs
  have LHs : s1.heap.objs.size < Hs := (Tq.lt _ (.head _)).1
  have LIs : s1.heap.objs.size < Is := (Tq.lt _ (.tail _ (.head _))).1
  have LDs : s1.heap.objs.size < Ds := (Tq.lt _ (.tail _ (.tail _ (.head _)))).1
  have LEs : s1.heap.objs.size < Es := (Tq.lt _ (.tail _ (.tail _ (.tail _ (.head _))))).1
  have htl : ∀ p ∈ [(A1, PySem.W.listOf #[.ref H0, .ref H1] 0), (A2, PySem.W.listOf #[.ref E0, .ref E1] 0), (Hs, instObj 201 Is), (Is, hdict q1 q2 u1 u2 Ds (tptr ts)), (Es, oE)], h.get? p.1 = some p.2 := all5 Tq.hA1 Tq.hA2 hH hI' hE1
  obtain ⟨g, rest, F, N, Sg, hne, _, _, uns⟩ := focus Tq.S₀ Tq.hL ns [(A1, PySem.W.listOf #[.ref H0, .ref H1] 0), (A2, PySem.W.listOf #[.ref E0, .ref E1] 0), (Hs, instObj 201 Is), (Is, hdict q1 q2 u1 u2 Ds (tptr ts)), (Es, oE)] htl (all5 (Nat.ne_of_gt (Tq.ap A1 (.tail _ (.head _))).2.1) (Nat.ne_of_gt (Tq.ap A2 (.tail _ (.tail _ (.head _)))).2.1) (Nat.ne_of_gt LHs) (Nat.ne_of_gt LIs) (Nat.ne_of_gt LEs)) (all5 (Tq.none (Tq.ap A1 (.tail _ (.head _))).2.1) (Tq.none (Tq.ap A2 (.tail _ (.tail _ (.head _)))).2.1) (Tq.none LHs) (Tq.none LIs) (Tq.none LEs))
  have X := X0.keeps Sg
  have T := T0.keeps Sg
  simp only [List.cons_append, List.nil_append] at N
  have hcl := Tq.Sd.len
  have loE := Tq.Sd.loE
  clear lA1 lE0 lE1 lA2 lTt lSl fx0 hinv
  (try dsimp only)
  with_reducible show wpAny _ _ _ _ _ _
  have stop : StopIf := trivial
  k_steps
  (rename StopIf => stp); clear stp
  unfold Hold
  have hk0 : 0 ≤ (n.fdiv 8).fmod 6 := Int.fmod_nonneg_of_pos _ (by decide)
  have hk6 : (n.fdiv 8).fmod 6 < 6 := Int.fmod_lt_of_pos (n.fdiv 8) (by decide)
  have hd0 : 0 ≤ n.fmod 8 := Int.fmod_nonneg_of_pos _ (by decide)
  have hd8 : n.fmod 8 < 8 := Int.fmod_lt_of_pos n (by decide)
  clear hif hxH hxE
  generalize (n.fdiv 768).fmod 2 = xi at *
  generalize (n.fdiv 8).fmod 6 = key at *
  generalize (n.fdiv 48).fmod 16 - 4 = val at *
  generalize n.fmod 8 = deed at *
  clear hi0 hi2
  by_cases hd5 : deed < 5
  · have stopA : StopA := trivial
    k_steps
    (rename StopA => stp); clear stp
    unfold Hold
    with_reducible rename Fr _ _ _ _ => FA
    with_reducible rename News _ _ _ _ => NA
    refine cut_assign (Str.ofString "lower") (lowerOf cs key val) FA NA ?cutA ?cutB
    case cutA =>
      intro Q' hQ
      repeat' (first | (k_unfold; (try dsimp only)) | walk1 | (dsimp only; walk1))
      all_goals
        with_reducible rename Fr _ _ _ _ => F1
        with_reducible rename News _ _ _ _ => N1
        first
        | (rename kdfHas cs key = false => hhas; (have e9 : (!kdfHas cs key) = lowerOf cs key val := by simp [lowerOf, hhas]); rw [e9] at F1; exact hQ _ _ F1 N1)
        | (rename kdfHas cs key = true => hhas; (have e9 : decide (val < kdfLook cs key 0) = lowerOf cs key val := by simp [lowerOf, hhas]); rw [e9] at F1; exact hQ _ _ F1 N1)
    case cutB =>
      intro hB tkB FB NB
      clear FA NA
      (try dsimp only)
      with_reducible show wpAny _ _ _ _ _ _
      k_steps
      unfold Hold
      with_reducible rename Fr _ _ _ _ => F1
      with_reducible rename News _ _ _ _ => N1
      have hu1 := keepAll (uns _ _ F1 (newsTail (newsTail (newsTail (newsTail (newsTail (newsTail (newsTail N1)))))))) (newsTail (newsTail N1)) htl
      have k1 : ∀ (b : Nat) o, h.get? b = some o → @Ne Nat b s1.heap.objs.size → _ := fun b o e n => hu1 b o e n (by simp)
      obtain ⟨nsA, SA, SdA⟩ := Tq.own F1 Sg k1
      obtain ⟨g2, G2, S2, sz2, gn2, B2⟩ := ground_frame (z := h3.objs.size + 1) X0 T0 SA L0 zL nsA
      have Ly := (Tq.ap _ (.head _)).2.1
      clear uns X T F1 N1 Sg hu1
      refine wpAny_call ?_
      refine ins_spec (y := h3.objs.size) (oy := oy) G2 S2 ?d1 ?d2 B2 sz2 (gn2 _ LHs) (gn2 _ LIs) (gn2 _ LDs) (gn2 _ Ly) (k1 _ _ hy (Nat.ne_of_gt Ly)) (Nat.le_refl _) (Tq.ap _ (.head _)).2.2.2.2.2 (Tq.ap _ (.head _)).2.2.2.1 (Tq.ap _ (.head _)).2.2.2.2.1 SdA ?R
      (case d1 => decide)
      (case d2 => decide)
      (case R =>
        intro h5 tk5 t2 kv2 St5 hs5 sub5 perm5
        have kA : ∀ (b : Nat) o, h.get? b = some o → b ≠ s1.heap.objs.size → b ∉ Is :: Ds :: taddrs ts → h5.get? b = some o := fun b o e n m => St5.keep b o (k1 b o e n) m
        have ns5 := ns_step nsA St5 (by simp only [List.mem_cons, not_or]; exact ⟨Nat.ne_of_lt LIs, Nat.ne_of_lt LDs, Tq.nLt⟩)
        have S5 : s1.heap.StaysIn h5 := Tq.stays k1 St5 (by simp only [List.mem_cons]; exact fun b hb => hb.elim .inl fun hb => hb.elim (fun q => .inr (.inl q)) fun q => .inr (.inr (.inr (.inr q))))
        have hE5 := kA _ _ hE1 (Nat.ne_of_gt LEs) (by simp only [List.mem_cons, not_or]; exact ⟨Tq.Sd.EI, Tq.Sd.ED, fun hm => Nat.lt_irrefl _ (Nat.lt_of_lt_of_le Tq.Sd.zE (Tq.Sd.hs.tr.le _ hm))⟩)
        have sub6 : ∀ a ∈ taddrs t2, a ∈ taddrs ts ∨ h.get? a = none := fun a ha => (sub5 a ha).imp_right fun q => by
          cases e : h.get? a with
          | none => rfl
          | some o =>
            have := k1 a o e (Nat.ne_of_gt (Nat.lt_of_lt_of_le zL (hs5.tr.le _ ha)))
            rw [q] at this; cases this
        clear SdA G2 S2 sz2 gn2 B2 St5 nsA SA hne
        obtain ⟨g, rest, F, N, Sg, hne, _, _, uns⟩ := focus S5 Tq.hL ns5 [(Es, oE)] (by simpa using hE5) (by simpa using Nat.ne_of_gt LEs) (by simpa using Tq.none LEs)
        have X := X0.keeps Sg
        have T := T0.keeps Sg
        have hrE := hne _ (.head _)
        dsimp only at hrE
        simp only [List.cons_append, List.nil_append] at N
        clear k1
        generalize hl : lowerOf cs key val = lw at *
        (try dsimp only)
        with_reducible show wpAny _ _ _ _ _ _
        cases lw
        all_goals
          k_steps
          all_goals
            with_reducible rename Fr _ _ _ _ => F6
            with_reducible rename News _ _ _ _ => N6
            rename Obj.IsDictOf _ _ _ => d6
            rename PyProof.V.FlatPairs _ _ _ => f6
            have kB : ∀ (b : Nat) o, h5.get? b = some o → b ≠ s1.heap.objs.size → b ≠ Es → _ := fun b o e n m => uns _ _ F6 (newsTail N6) b o e n (by simpa using m)
            obtain ⟨StF, hsF⟩ := two_step Tq.Sd zL LHs LIs LDs kA kB hs5
            first
              | ((have hn : newC cs key val (deed == 4) = kdfPut cs key val := by simp [newC, *]); (rw [hn] at perm5); (exact ⟨rfl, _, _, rfl, Tq.fin hst F6.ns (by rfl) (by rfl) StF ⟨hsF, ⟨_, _, news_get N6 (.head _), d6, f6⟩, Tq.Sd.loE, Tq.Sd.EH, Tq.Sd.EI, Tq.Sd.ED, Tq.Sd.zE, perm5, put_dom Tq.Sd.dom hk0 hk6⟩ sub6⟩))
              | ((have hn : newC cs key val (deed == 4) = cs := by simp [newC, *]); (rw [hn] at perm5); (exact ⟨rfl, _, _, rfl, Tq.fin hst F6.ns (by rfl) (by rfl) StF ⟨hsF, ⟨_, _, news_get N6 (.head _), hE2, f6⟩, Tq.Sd.loE, Tq.Sd.EH, Tq.Sd.EI, Tq.Sd.ED, Tq.Sd.zE, perm5, Tq.Sd.dom⟩ sub6⟩)))
  · by_cases hd7 : deed < 7
    · k_steps
      unfold Hold
      with_reducible rename Fr _ _ _ _ => F1
      with_reducible rename News _ _ _ _ => N1
      have hu1 := keepAll (uns _ _ F1 (newsTail (newsTail (newsTail (newsTail (newsTail (newsTail (newsTail N1)))))))) (newsTail (newsTail N1)) htl
      have k1 : ∀ (b : Nat) o, h.get? b = some o → @Ne Nat b s1.heap.objs.size → _ := fun b o e n => hu1 b o e n (by simp)
      obtain ⟨nsA, SA, SdA⟩ := Tq.own F1 Sg k1
      clear uns X T F1 N1 Sg hu1
      refine wpAny_call ?_
      refine least_spec (base := s1.heap) (Lf := s1.heap.objs.size) (Gz (h3.objs.size + 1) (Nat.le_of_lt zL)) SA ?d1 ?d2 (Nat.le_of_lt nsA.lt) (Tq.none LHs) (Tq.none LIs) (Tq.none LDs) (Tq.none LEs) nL (Heap.FunFrames.cons (by intro q; cases q) rfl nsA nL trivial) rfl zL (Nat.ne_of_lt LIs) (Nat.ne_of_lt LDs) (Nat.ne_of_lt LEs) SdA (Nat.ne_of_lt LHs) ?R
      (case d1 => decide)
      (case d2 => decide)
      (case R =>
        intro h5 tk5 t2 kv2 c2 St5 nsK Sd5 sub5 len5
        have kA : ∀ (b : Nat) o, h.get? b = some o → b ≠ s1.heap.objs.size → b ∉ Is :: Ds :: Es :: s1.heap.objs.size :: taddrs ts → h5.get? b = some o := fun b o e n m => St5.keep b o (k1 b o e n) m
        have ns5 := nsK _ nsA
        have S5 : s1.heap.StaysIn h5 := Tq.stays k1 St5 (by simp only [List.mem_cons]; exact fun _ q => q)
        clear St5 nsA SA
        obtain ⟨g, rest, F, N, Sg, _, _, _, uns⟩ := focus S5 Tq.hL ns5 [] (by simp) (by simp) (by simp)
        have X := X0.keeps Sg
        have T := T0.keeps Sg
        simp only [List.nil_append] at N
        clear k1
        (try dsimp only)
        with_reducible show wpAny _ _ _ _ _ _
        k_steps
        with_reducible rename Fr _ _ _ _ => F6
        with_reducible rename News _ _ _ _ => N6
        have kB : ∀ (b : Nat) o, h5.get? b = some o → b ≠ s1.heap.objs.size → _ := fun b o e n => uns _ _ F6 N6 b o e n (by simp)
        obtain ⟨StF, SdX⟩ := least_step Tq.Sd zL LHs LIs LDs LEs kA kB Sd5
        exact ⟨rfl, _, _, rfl, Tq.fin hst F6.ns (by rfl) (by rfl) StF SdX fun a ha => .inl (sub5 a ha)⟩)
    · with_reducible rename Fr _ _ _ _ => F1
      with_reducible rename News _ _ _ _ => N1
      have hu1 := keepAll (uns _ _ F1 (newsTail (newsTail (newsTail (newsTail (newsTail (newsTail (newsTail N1)))))))) (newsTail (newsTail N1)) htl
      have k1 : ∀ (b : Nat) o, h.get? b = some o → @Ne Nat b s1.heap.objs.size → _ := fun b o e n => hu1 b o e n (by simp)
      obtain ⟨nsA, SA, SdA⟩ := Tq.own F1 Sg k1
      clear uns X T F1 N1 Sg hu1 hne
      have rd : Rd w0 _ _ _ s1.heap _ (h3.objs.size + 1) Hs Is Ds ts ks := ⟨Gz _ (Nat.le_of_lt zL), SA, Nat.le_of_lt nsA.lt, Tq.none LHs, Tq.none LIs, Tq.none LDs, SdA.hs⟩
      have Kp0 := rd.kp
      have hz9 : s1.heap.objs.size ≤ s1.heap.objs.size := Nat.le_refl _
      have hfl := (flat_get hE3).1
      have kl1 : ks.length ≤ 16777216 := by rw [Tq.Sd.klen]; exact Nat.le_trans hcl (by decide)
      have kl2 : hvs.length ≤ 16777216 := by rw [hfl]; exact Nat.le_trans hcl (by decide)
      have kl3 : ks.length = hvs.length := by rw [Tq.Sd.klen, hfl]
      have htlR : ∀ p ∈ [(Hs, instObj 201 Is), (Is, hdict q1 q2 u1 u2 Ds (tptr ts)), (Es, oE)], Heap.get? _ p.1 = some p.2 := all3 (k1 _ _ hH (Nat.ne_of_gt LHs)) (k1 _ _ hI' (Nat.ne_of_gt LIs)) (k1 _ _ hE1 (Nat.ne_of_gt LEs))
      obtain ⟨g, rest, F, N, Sg, _, _, _, uns⟩ := focus SA Tq.hL nsA [(Hs, instObj 201 Is), (Is, hdict q1 q2 u1 u2 Ds (tptr ts)), (Es, oE)] htlR (all3 (Nat.ne_of_gt LHs) (Nat.ne_of_gt LIs) (Nat.ne_of_gt LEs)) (all3 (Tq.none LHs) (Tq.none LIs) (Tq.none LEs))
      have X := X0.keeps Sg
      have T := T0.keeps Sg
      simp only [List.cons_append, List.nil_append] at N
      (try dsimp only)
      with_reducible show wpAny _ _ _ _ _ _
      obtain ⟨look, hlk, vas, vbs, hvl⟩ := Tq.Sd.look hE3 (keysNodup hE2) key
      obtain ⟨hvv, vb⟩ : ∃ x, valueAt hvs key = x := ⟨_, rfl⟩
      rw [vb] at hvl
      have stopA : StopA := trivial
      k_steps
      (rename StopA => stp); clear stp
      unfold Hold
      rcases hvl with ⟨e, e2⟩ | ⟨v0, tv, e, e2⟩
      all_goals
        subst e
        subst e2
        first
          | ((rename GV none _ _ => q); replace q := q.none; subst q; (rename GV none _ _ => q); replace q := q.none; subst q)
          | ((rename GV (some _) _ _ => q); replace q := q.some; obtain ⟨t8, rfl⟩ := q; (rename GV (some _) _ _ => q); replace q := q.some; obtain ⟨t9, rfl⟩ := q)
        k_steps
        all_goals first
          | (exfalso; omega)
          | (exfalso; simp_all; done)
          | skip
        all_goals
          with_reducible rename Fr _ _ _ _ => F6
          with_reducible rename News _ _ _ _ => N6
          have kB := fun (b : Nat) o e n => keepAll (uns _ _ F6 (newsTail (newsTail (newsTail (newsTail (newsTail N6)))))) (newsTail (newsTail N6)) htlR b o e n (by simp)
          obtain ⟨StF, SdX⟩ := least_step Tq.Sd zL LHs LIs LDs LEs (fun b o e n _ => k1 b o e n) kB SdA
          exact ⟨rfl, _, _, rfl, Tq.fin hst F6.ns (by rfl) (by rfl) StF SdX fun a ha => .inl ha⟩)

end
end
end
end
end
end
end
end Mine
theorem PySem.Challenge.cw_bf0021_01_holds : PySem.Challenge.rw_bf0021_01.Holds :=
  Mine.law_holds
