import PyProof.Rows.All
import Wide.All
import OpenK.AllK
import Wide.FinOn
import KE.KEqDict
import KE.KDictSum
import KE.FramesApart
import PyProof.StationsW
import PyProof.ListIndexOut
import Lean
import PySem.Challenge.RW_rt0064_02
set_option Elab.async false
set_option linter.all false
section
open PySem PySem.W PyProof.Rows
set_option maxRecDepth 100000
namespace Mine
noncomputable def isDefS : Stmt → Bool
  | .Assign .. => false
  | _ => true
noncomputable def recA (p : Program) (f : Str) : DefRec := ((recsOf p).find? fun d => d.name == f).getD ⟨f, ⟨[], [], none, [], [], none, []⟩, [], ⟨.function, [], false, false, []⟩, ⟨0,0,0,0⟩⟩
noncomputable def view2 : Program := { PySem.Challenge.pw_rt0064_02 with main := { PySem.Challenge.pw_rt0064_02.main with body := PySem.Challenge.pw_rt0064_02.main.body.filter isDefS } }
theorem said : PySem.Challenge.rw_rt0064_02.wellSaid = true := by kernel_rfl
open PySem.Challenge in
theorem left : LeftO rw_rt0064_02.row.prog view2 [] (fun s => xlAt view2 [] s && recOk rw_rt0064_02.row.records s) Hook.none.obs Hook.none.val (2 * 1261 + 100) := fun w => by kernel_rfl
end Mine
end
section
open PySem PySem.W PyProof.Rows
set_option autoImplicit false
set_option genSizeOf false
set_option genSizeOfSpec false
set_option genInjectivity false
namespace Mine
inductive D where
  | none
  | bool (b : Bool)
  | int (i : Int)
  | str (x : Str)
  | ty (T : String)
  | tup (ds : List D)
  | lst (ds : List D)
  | dct (ks : List Str) (ds : List D)
abbrev sq (c : String) (vs : List Value) (n : Nat) : Obj := { cls := .type c, data := .seq vs.toArray n }
section
variable (prog : Program) (w : World)
mutual
inductive R (h : Heap) (W : Addr → Prop) : Value → D → Prop
  | none : R h W .none .none
  | bool (b : Bool) : R h W (.bool b) (.bool b)
  | int (i : Int) (t : Tok) : R h W (.int i t) (.int i)
  | str (x : Str) (t : Tok) : R h W (.str x t) (.str x)
  | ty (T : String) : R h W (.type T) (.ty T)
  | tup {a : Addr} {vs : List Value} {n : Nat} {ds : List D} : ¬ W a → h.get? a = some (sq "tuple" vs n) → RL h W vs ds → R h W (.ref a) (.tup ds)
  | lst {a : Addr} {vs : List Value} {n : Nat} {ds : List D} : ¬ W a → h.get? a = some (sq "list" vs n) → RL h W vs ds → R h W (.ref a) (.lst ds)
  | dct {a : Addr} {kvs : List (Str × Value)} {ks : List Str} {ds : List D} : ¬ W a → (a == sysModules) = false → h.DictOf (strKind prog w) a kvs → ks = kvs.map (·.1) → RL h W (kvs.map (·.2)) ds → R h W (.ref a) (.dct ks ds)
inductive RL (h : Heap) (W : Addr → Prop) : List Value → List D → Prop
  | nil : RL h W [] []
  | cons {v : Value} {d : D} {vs : List Value} {ds : List D} : R h W v d → RL h W vs ds → RL h W (v :: vs) (d :: ds)
end
end
section
variable {prog : Program} {w : World} {h h' : Heap} {W W' : Addr → Prop}
theorem R.mono (hk : ∀ b o, ¬ W b → h.get? b = some o → h'.get? b = some o) (hW : ∀ a, W' a → W a ∨ h.get? a = Option.none) {v : Value} {d : D} (r : R prog w h W v d) : R prog w h' W' v d := by
  have off : ∀ {a o}, ¬ W a → h.get? a = some o → ¬ W' a := fun hn hl hw => (hW _ hw).elim hn fun q => by rw [q] at hl; cases hl
  refine R.rec (motive_1 := fun v d _ => R prog w h' W' v d) (motive_2 := fun vs ds _ => RL prog w h' W' vs ds) .none (fun b => .bool b) (fun i t => .int i t) (fun x t => .str x t) (fun T => .ty T)
    (fun hn hl _ ih => .tup (off hn hl) (hk _ _ hn hl) ih) (fun hn hl _ ih => .lst (off hn hl) (hk _ _ hn hl) ih) (fun hn lo hl e _ ih => ?_) .nil (fun _ _ a b => .cons a b) r
  obtain ⟨o, es, ep, ho, x⟩ := hl
  exact .dct (off hn ho) lo ⟨o, es, ep, hk _ _ hn ho, x⟩ e ih
theorem RL.mono (hk : ∀ b o, ¬ W b → h.get? b = some o → h'.get? b = some o) (hW : ∀ a, W' a → W a ∨ h.get? a = Option.none) {vs : List Value} {ds : List D} (r : RL prog w h W vs ds) : RL prog w h' W' vs ds :=
  RL.rec (motive_1 := fun _ _ _ => True) (motive_2 := fun vs ds _ => RL prog w h' W' vs ds) trivial (fun _ => trivial) (fun _ _ => trivial) (fun _ _ => trivial) (fun _ => trivial) (fun _ _ _ _ => trivial) (fun _ _ _ _ => trivial) (fun _ _ _ _ _ _ => trivial) .nil (fun a _ _ b => .cons (a.mono hk hW) b) r
@[elab_as_elim] theorem RL.consE {us : List Value} {d : D} {ds : List D} {ms : List Value → Prop} (r : RL prog w h W us (d :: ds)) (k : ∀ v vs, R prog w h W v d → RL prog w h W vs ds → ms (v :: vs)) : ms us := by
  cases r with | cons a b => exact k _ _ a b
@[elab_as_elim] theorem RL.nilE {us : List Value} {ms : List Value → Prop} (r : RL prog w h W us []) (k : ms []) : ms us := by
  cases r; exact k
theorem RL.length {vs : List Value} {ds : List D} (x : RL prog w h W vs ds) : vs.length = ds.length := by
  induction ds generalizing vs with
  | nil => exact x.nilE rfl
  | cons d ds ih => exact x.consE fun v vs _ r => congrArg (· + 1) (ih r)
theorem RL.append {vs us : List Value} {ds es : List D} (x : RL prog w h W vs ds) (y : RL prog w h W us es) : RL prog w h W (vs ++ us) (ds ++ es) := by
  induction ds generalizing vs with
  | nil => exact x.nilE y
  | cons d ds ih => exact x.consE fun v vs a r => .cons a (ih r)
theorem RL.get {vs : List Value} {ds : List D} (x : RL prog w h W vs ds) {k : Nat} {d : D} (hd : ds[k]? = some d) : ∃ v, vs[k]? = some v ∧ R prog w h W v d := by
  induction ds generalizing vs k with
  | nil => cases hd
  | cons e ds ih =>
    refine x.consE fun v vs a r => ?_
    cases k with
    | zero => cases hd; exact ⟨v, rfl, a⟩
    | succ k => exact ih r hd
theorem RL.get' {vs : List Value} {ds : List D} (x : RL prog w h W vs ds) {k : Nat} {v : Value} (hv : vs[k]? = some v) : ∃ d, ds[k]? = some d ∧ R prog w h W v d := by
  have hk : k < ds.length := by rw [← x.length]; exact (List.getElem?_eq_some_iff.mp hv).1
  obtain ⟨v', hv', r⟩ := x.get (List.getElem?_eq_getElem hk)
  rw [hv] at hv'; cases hv'
  exact ⟨_, List.getElem?_eq_getElem hk, r⟩
theorem RL.take {vs : List Value} {ds : List D} (x : RL prog w h W vs ds) (k : Nat) : RL prog w h W (vs.take k) (ds.take k) := by
  induction ds generalizing vs k with
  | nil => exact x.nilE (by rw [List.take_nil, List.take_nil]; exact .nil)
  | cons d ds ih =>
    refine x.consE fun v vs a r => ?_
    cases k with
    | zero => exact .nil
    | succ k => exact .cons a (ih r k)
theorem RL.drop {vs : List Value} {ds : List D} (x : RL prog w h W vs ds) (k : Nat) : RL prog w h W (vs.drop k) (ds.drop k) := by
  induction ds generalizing vs k with
  | nil => exact x.nilE (by rw [List.drop_nil, List.drop_nil]; exact .nil)
  | cons d ds ih =>
    refine x.consE fun v vs a r => ?_
    cases k with
    | zero => exact .cons a r
    | succ k => exact ih r k
theorem RL.reverse {vs : List Value} {ds : List D} (x : RL prog w h W vs ds) : RL prog w h W vs.reverse ds.reverse := by
  induction ds generalizing vs with
  | nil => exact x.nilE .nil
  | cons d ds ih =>
    refine x.consE fun v vs a r => ?_
    rw [List.reverse_cons, List.reverse_cons]; exact (ih r).append (.cons a .nil)
theorem RL.set {vs : List Value} {ds : List D} (x : RL prog w h W vs ds) {v : Value} {d : D} (r : R prog w h W v d) (k : Nat) : RL prog w h W (vs.set k v) (ds.set k d) := by
  induction ds generalizing vs k with
  | nil => exact x.nilE .nil
  | cons d' ds ih =>
    refine x.consE fun u us a rs => ?_
    cases k with
    | zero => exact .cons r rs
    | succ k => exact .cons a (ih rs k)
noncomputable def D.atom : D → Bool
  | .tup _ | .lst _ | .dct .. => false
  | _ => true
theorem R.of_atom {v : Value} {d : D} (hd : d.atom = true) (x : R prog w h W v d) : R prog w h' W' v d := by
  cases x <;> first | cases hd; done | constructor
theorem RL.of_atoms {vs : List Value} {ds : List D} (hd : ds.all D.atom = true) (x : RL prog w h W vs ds) : RL prog w h' W' vs ds := by
  induction ds generalizing vs with
  | nil => exact x.nilE .nil
  | cons d ds ih =>
    have hd := (Bool.and_eq_true _ _).mp hd
    exact x.consE fun v vs a r => .cons (a.of_atom hd.1) (ih hd.2 r)
end
structure Kp (S : Addr → Prop) (h h' : Heap) : Prop where
  out : ∀ b o, ¬ S b → h.get? b = some o → h'.get? b = some o
  all : ∀ b o, h.get? b = some o → ∃ sl, h'.get? b = some { o with slots := sl }
section
variable {S T : Addr → Prop} {h h₁ h₂ : Heap}
theorem Kp.of (k : ∀ b o, h.get? b = some o → h₁.get? b = some o) : Kp S h h₁ := ⟨fun b o _ e => k b o e, fun b o e => ⟨o.slots, k b o e⟩⟩
theorem Kp.refl : Kp S h h := Kp.of fun _ _ e => e
theorem Kp.trans (x : Kp S h h₁) (y : Kp S h₁ h₂) : Kp S h h₂ := ⟨fun b o hS e => y.out b o hS (x.out b o hS e), fun b o e => let ⟨_, e₁⟩ := x.all b o e; let ⟨sl, e₂⟩ := y.all b _ e₁; ⟨sl, e₂⟩⟩
theorem Kp.sub (hST : ∀ a, S a → T a) (x : Kp S h h₁) : Kp T h h₁ := ⟨fun b o hT e => x.out b o (fun q => hT (hST b q)) e, x.all⟩
theorem Kp.alive (x : Kp S h h₁) {a : Addr} (e : h₁.get? a = none) : h.get? a = none := by
  cases q : h.get? a with
  | none => rfl
  | some o => obtain ⟨sl, e'⟩ := x.all a o q; rw [e] at e'; cases e'
theorem Kp.ns (x : Kp S h h₁) {L : Addr} {m : Str → Option Value} (hn : h.Ns L m) : h₁.Ns L m := by
  obtain ⟨o, es, ep, ho, hd, r⟩ := hn
  obtain ⟨sl, e⟩ := x.all L o ho
  exact ⟨_, es, ep, e, hd, r⟩
theorem Kp.cell (x : Kp S h h₁) {c : Addr} {v : Option Value} (hn : h.IsCell c v) : h₁.IsCell c v := by
  obtain ⟨o, ho, hd⟩ := hn
  obtain ⟨sl, e⟩ := x.all c o ho
  exact ⟨_, e, hd⟩
theorem Kp.R {prog : Program} {w : World} {W : Addr → Prop} {v : Value} {d : D} (x : Kp S h h₁) (hS : ∀ a, S a → W a) (r : R prog w h W v d) : R prog w h₁ W v d :=
  r.mono (fun b o hb e => x.out b o (fun q => hb (hS b q)) e) fun _ q => .inl q
end
@[reducible] noncomputable def up (s : Shared) (h : Heap) (tk : Nat) : Shared := { s with heap := h, toks := tk }
@[reducible] noncomputable def OkP {α : Type} (s : Shared) (P : α → Heap → Prop) (v : α) (s' : Shared) : Prop := ∃ h' tk, s' = up s h' tk ∧ P v h'
theorem fin {α : Type} {s : Shared} {P : α → Heap → Prop} {v : α} {h' : Heap} {tk : Nat} (h : P v h') : OkP s P v (up s h' tk) := ⟨h', tk, rfl, h⟩
noncomputable def Ok {α : Type} (M : Model) (A : Around) (t : Sem α) (s : Shared) (P : α → Heap → Prop) : Prop :=
  wpAny M A t (OkP s P) (fun _ _ => False) s
section
variable {α β : Type} {M : Model} {A : Around} {s : Shared}
theorem Ok.wp {t : Sem α} {P : α → Heap → Prop} (x : Ok M A t s P) {Q : α → Shared → Prop} {E : Value → Shared → Prop} (h : ∀ v h' tk, s.toks ≤ tk → P v h' → Q v (up s h' tk)) : wpAny M A t Q E s :=
  wpAny_mono (wpAny_toks_of (n := s.toks) (Nat.le_refl _) x) (fun v s' q => by
    obtain ⟨hn, h', tk, rfl, p⟩ := q
    exact h v h' tk hn p) fun _ _ q => q.2.elim
theorem Ok.pure {a : α} {P : α → Heap → Prop} (h : P a s.heap) : Ok M A (Pure.pure a) s P := wpAny_pure ⟨_, _, rfl, h⟩
theorem Ok.mono {t : Sem α} {P P' : α → Heap → Prop} (x : Ok M A t s P) (h : ∀ v h', P v h' → P' v h') : Ok M A t s P' :=
  wpAny_mono x (fun v s' q => let ⟨h', tk, e, p⟩ := q; ⟨h', tk, e, h v h' p⟩) fun _ _ q => q
end
end Mine
end
section
open PySem PySem.W PyProof.Rows
set_option autoImplicit false
namespace Mine
section
variable {prog : Program} {w : World} {h : Heap} {W : Addr → Prop} {u : Value} {us : List Value} {m : Value → Prop} {ms : List Value → Prop} {d e : D} {ds : List D}
@[elab_as_elim] theorem R.intE {i : Int} (r : R prog w h W u (.int i)) (k : ∀ t, m (.int i t)) : m u := by cases r; exact k _
@[elab_as_elim] theorem R.strE {x : Str} (r : R prog w h W u (.str x)) (k : ∀ t, m (.str x t)) : m u := by cases r; exact k _
@[elab_as_elim] theorem R.boolE {b : Bool} (r : R prog w h W u (.bool b)) (k : m (.bool b)) : m u := by cases r; exact k
@[elab_as_elim] theorem R.lstE (r : R prog w h W u (.lst ds)) (k : ∀ a vs n, ¬ W a → h.get? a = some (sq "list" vs n) → RL prog w h W vs ds → m (.ref a)) : m u := by
  cases r with | lst a b c => exact k _ _ _ a b c
@[elab_as_elim] theorem R.tupE (r : R prog w h W u (.tup ds)) (k : ∀ a vs n, ¬ W a → h.get? a = some (sq "tuple" vs n) → RL prog w h W vs ds → m (.ref a)) : m u := by
  cases r with | tup a b c => exact k _ _ _ a b c
@[elab_as_elim] theorem R.dctE {ks : List Str} (r : R prog w h W u (.dct ks ds)) (k : ∀ a kvs, ¬ W a → (a == sysModules) = false → h.DictOf (strKind prog w) a kvs → ks = kvs.map (·.1) → RL prog w h W (kvs.map (·.2)) ds → m (.ref a)) : m u := by
  cases r with | dct a b c d e => exact k _ _ a b c d e
@[elab_as_elim] theorem RL.oneE (r : RL prog w h W us [d]) (k : ∀ v, R prog w h W v d → ms [v]) : ms us :=
  r.consE fun v _ a r => r.nilE (k v a)
@[elab_as_elim] theorem RL.twoE (r : RL prog w h W us [d, e]) (k : ∀ v v', R prog w h W v d → R prog w h W v' e → ms [v, v']) : ms us :=
  r.consE fun v _ a r => r.oneE fun v' b => k v v' a b
theorem RL.strs {vs : List Value} {xs : List Str} (x : RL prog w h W vs (xs.map .str)) : StrsAre vs xs := by
  induction xs generalizing vs with
  | nil => exact x.nilE .nil
  | cons y r ih => exact x.consE fun v vs a b => R.strE a fun t => .cons _ _ (ih b)
theorem RL.of_strs {vs : List Value} {xs : List Str} (x : StrsAre vs xs) : RL prog w h W vs (xs.map .str) := by
  induction x with
  | nil => exact .nil
  | cons y t _ ih => exact .cons (.str _ _) ih
theorem RL.ints {vs : List Value} {xs : List Int} (x : RL prog w h W vs (xs.map .int)) : IntsAre vs xs := by
  induction xs generalizing vs with
  | nil => exact x.nilE .nil
  | cons y r ih => exact x.consE fun v vs a b => R.intE a fun t => .cons _ _ (ih b)
theorem RL.of_ints {vs : List Value} {xs : List Int} (x : IntsAre vs xs) : RL prog w h W vs (xs.map .int) := by
  induction x with
  | nil => exact .nil
  | cons y t _ ih => exact .cons (.int _ _) ih
end
section
variable {α : Type} {M : Model} {A : Around} {s : Shared} {t : Sem α} {Q : α → Shared → Prop} {E : Value → Shared → Prop}
theorem Ok.wp2 {P P' : α → Heap → Prop} (x : Ok M A t s fun v h => P v h ∧ P' v h) (h : ∀ v h' tk, s.toks ≤ tk → P v h' → P' v h' → Q v (up s h' tk)) : wpAny M A t Q E s :=
  x.wp fun v h' tk n p => h v h' tk n p.1 p.2
theorem Ok.wpE {u : α} {h₀ : Heap} (x : Ok M A t s fun v h => v = u ∧ h = h₀) (h : ∀ tk, s.toks ≤ tk → Q u (up s h₀ tk)) : wpAny M A t Q E s :=
  x.wp fun v h' tk n p => by rw [p.1, p.2]; exact h tk n
theorem Ok.wpF {u : α} {P : Heap → Prop} (x : Ok M A t s fun v h => v = u ∧ P h) (h : ∀ h' tk, s.toks ≤ tk → P h' → Q u (up s h' tk)) : wpAny M A t Q E s :=
  x.wp fun v h' tk n p => by rw [p.1]; exact h h' tk n p.2
theorem tokK (x : wpAny M A t (fun v s' => s.toks ≤ s'.toks → Q v s') E s) : wpAny M A t Q E s :=
  wpAny_mono (wpAny_toks_of (n := s.toks) (Nat.le_refl _) x) (fun _ _ q => q.2 q.1) fun _ _ q => q.2
theorem gg {P : Prop} (h : ∀ G : Prop, (P → G) → G) : P := h P id
theorem optE {α : Type} {a : α} {G : Prop} (h : (none : Option α) = some a) : G := by cases h
theorem ifE {α : Type} {c : Prop} [Decidable c] {a : Option α} {b : α} {G : Prop} (h : (if c then a else none) = some b) (k : c → a = some b → G) : G := by
  by_cases hc : c
  · exact k hc (by rwa [if_pos hc] at h)
  · rw [if_neg hc] at h; cases h
theorem bindE {α β : Type} {o : Option α} {f : α → Option β} {b : β} {G : Prop} (h : o.bind f = some b) (k : ∀ a, o = some a → f a = some b → G) : G := by
  cases o with
  | none => cases h
  | some a => exact k a rfl h
@[elab_as_elim] theorem someE {α : Type} {a b : α} {m : α → Prop} (h : some a = some b) (k : m a) : m b := by cases h; exact k
@[elab_as_elim] theorem mapE {α β : Type} {o : Option α} {f : α → β} {b : β} {m : β → Prop} (h : o.map f = some b) (k : ∀ a, o = some a → m (f a)) : m b := by
  cases o with
  | none => cases h
  | some a => cases h; exact k a rfl
end
structure G4 (a b c d : Prop) : Prop where
  a : a
  b : b
  c : c
  d : d
inductive LInv (s : Shared) (n : Nat) (P : Nat → Heap → Prop) : Nat → Shared → Prop
  | mk (i : Nat) (h : Heap) (tk : Nat) (htk : s.toks ≤ tk) (hi : i ≤ n) (p : P i h) : LInv s n P (n + 1 - i) (up s h tk)
end Mine
end
section
open PySem PySem.W PyProof.Rows
set_option autoImplicit false
set_option genSizeOf false
set_option genSizeOfSpec false
set_option genInjectivity false
namespace Mine
inductive BOp | add | sub | mul | fdiv | mod
inductive COp | eq | ne | isIn
inductive Bi | len | sorted | divmod | range | enumerate | type
inductive Me | rfind | startswith | endswith | rstrip | split | join | get | index
inductive Tg
  | one (i : Nat) (p : Pos)
  | two (i : Nat) (p : Pos) (j : Nat) (q : Pos) (k : Nat) (r : Pos)
mutual
inductive X
  | var (i : Nat) (p : Pos)
  | int (n : Int) (k : Nat) (p : Pos)
  | str (x : Str) (k : Nat) (p : Pos)
  | neg (e : X) (p : Pos)
  | bin (op : BOp) (a b : X) (p : Pos)
  | cmp (op : COp) (a b : X) (p : Pos)
  | ite (t a b : X) (p : Pos)
  | not (a : X) (p : Pos)
  | and (a b : X) (p : Pos)
  | or (a b : X) (p : Pos)
  | item (a b : X) (p : Pos)
  | slice (a : X) (lo hi : OX) (ps p : Pos)
  | rev (a : X) (k : Nat) (pc pn ps p : Pos)
  | list (es : XS) (p : Pos)
  | tup (es : XS) (k : Nat) (p : Pos)
  | dict (ks vs : XS) (p : Pos)
  | lcomp (e : X) (gs : GS) (sc : Scope) (p : Pos)
  | dcomp (k v : X) (gs : GS) (sc : Scope) (p : Pos)
  | call (f : Nat) (fp : Pos) (as : XS) (p : Pos)
  | bi (b : Bi) (fp : Pos) (as : XS) (p : Pos)
  | meth (m : Me) (o : X) (ap : Pos) (as : XS) (p : Pos)
  | isSB (e : X) (p1 p2 p3 : Pos) (k : Nat) (p4 p : Pos)
  | isB (e : X) (p1 p2 p : Pos)
inductive XS
  | nil
  | cons (e : X) (r : XS)
inductive OX
  | none
  | some (e : X)
inductive GS
  | nil
  | cons (t : Tg) (src : X) (ifs : XS) (r : GS)
end
noncomputable def BOp.py : BOp → Operator
  | .add => .Add | .sub => .Sub | .mul => .Mult | .fdiv => .FloorDiv | .mod => .Mod
noncomputable def COp.py : COp → CmpOp
  | .eq => .Eq | .ne => .NotEq | .isIn => .In
noncomputable def Bi.py : Bi → Str
  | .len => "len" | .sorted => "sorted" | .divmod => "divmod" | .range => "range" | .enumerate => "enumerate" | .type => "type"
noncomputable def Me.py : Me → Str
  | .rfind => "rfind" | .startswith => "startswith" | .endswith => "endswith" | .rstrip => "rstrip" | .split => "split" | .join => "join" | .get => "get" | .index => "index"
section
variable (nm : Nat → Str) (fn : Nat → Str)
noncomputable def Tg.py : Tg → Expr
  | .one i p => .Name (nm i) p
  | .two i p j q k r => .Tuple [.Name (nm i) p, .Name (nm j) q] k r
mutual
noncomputable def X.py : X → Expr
  | .var i p => .Name (nm i) p
  | .int n k p => .Constant (.int n) k p
  | .str x k p => .Constant (.str x) k p
  | .neg e p => .UnaryOp .USub e.py p
  | .bin op a b p => .BinOp a.py op.py b.py p
  | .cmp op a b p => .Compare a.py [op.py] [b.py] p
  | .ite t a b p => .IfExp t.py a.py b.py p
  | .not a p => .UnaryOp .Not a.py p
  | .and a b p => .BoolOp .And [a.py, b.py] p
  | .or a b p => .BoolOp .Or [a.py, b.py] p
  | .item a b p => .Subscript a.py b.py p
  | .slice a lo hi ps p => .Subscript a.py (.Slice lo.py hi.py none ps) p
  | .rev a k pc pn ps p => .Subscript a.py (.Slice none none (some (.UnaryOp .USub (.Constant (.int 1) k pc) pn)) ps) p
  | .list es p => .List es.py p
  | .tup es k p => .Tuple es.py k p
  | .dict ks vs p => .Dict ks.opy vs.py p
  | .lcomp e gs sc p => .ListComp e.py gs.py sc p
  | .dcomp k v gs sc p => .DictComp k.py v.py gs.py sc p
  | .call f fp as p => .Call (.Name (fn f) fp) as.py [] p
  | .bi b fp as p => .Call (.Name b.py fp) as.py [] p
  | .meth m o ap as p => .Call (.Attribute o.py m.py ap) as.py [] p
  | .isSB e p1 p2 p3 k p4 p => .Call (.Name "issubclass" p1) [e.py, .Tuple [.Name "str" p2, .Name "bytes" p3] k p4] [] p
  | .isB e p1 p2 p => .Call (.Name "isinstance" p1) [e.py, .Name "bytes" p2] [] p
noncomputable def XS.py : XS → List Expr
  | .nil => []
  | .cons e r => e.py :: r.py
noncomputable def XS.opy : XS → List (Option Expr)
  | .nil => []
  | .cons e r => some e.py :: r.opy
noncomputable def OX.py : OX → Option Expr
  | .none => Option.none
  | .some e => Option.some e.py
noncomputable def GS.py : GS → List Comprehension
  | .nil => []
  | .cons t src ifs r => ⟨t.py nm, src.py, ifs.py, 0⟩ :: r.py
end
end
noncomputable def ltS (a b : Str) : Bool := decide (a.cps.toList < b.cps.toList)
noncomputable def insS (x : Str) : List Str → List Str
  | [] => [x]
  | y :: r => if ltS y x then y :: insS x r else x :: y :: r
noncomputable def sortS : List Str → List Str
  | [] => []
  | x :: r => insS x (sortS r)
noncomputable def strsOf : List D → Option (List Str)
  | [] => some []
  | .str x :: r => (strsOf r).map (x :: ·)
  | _ :: _ => none
noncomputable def intsOf : List D → Option (List Int)
  | [] => some []
  | .int x :: r => (intsOf r).map (x :: ·)
  | _ :: _ => none
noncomputable def strLine : Nat := 100000
noncomputable def listLine : Nat := 100000
noncomputable def binD : BOp → D → D → Option D
  | .add, .int a, .int b => some (.int (a + b))
  | .add, .str a, .str b => if a.length + b.length ≤ strLine then some (.str (a ++ b)) else none
  | .add, .lst a, .lst b => if a.length + b.length ≤ listLine then some (.lst (a ++ b)) else none
  | .sub, .int a, .int b => some (.int (a - b))
  | .mul, .int a, .int b => if a.natAbs < 2 ^ 4096 ∧ b.natAbs < 2 ^ 4096 then some (.int (a * b)) else none
  | .mul, .str a, .int n => if a.length ≤ 16 ∧ 0 ≤ n ∧ n ≤ 100000 then some (.str (Txt.mul a n)) else none
  | .fdiv, .int a, .int b => if b ≠ 0 ∧ a.natAbs < 2 ^ 62 ∧ b.natAbs < 2 ^ 62 then some (.int (a.fdiv b)) else none
  | .mod, .int a, .int b => if b ≠ 0 then some (.int (a.fmod b)) else none
  | _, _, _ => none
noncomputable def eqStrs (a b : List D) : Option Bool := match strsOf a, strsOf b with
  | some x, some y => if x.length ≤ 1000 then some (decide (x = y)) else none
  | _, _ => none
noncomputable def isNil : List D → Bool
  | [] => true
  | _ => false
noncomputable def inD : D → D → Option Bool
  | .str x, .str y => some (Txt.contains y x)
  | .str x, .lst ds => (strsOf ds).map fun ys => ys.any fun y => y == x
  | .str x, .dct ks _ => some (ks.contains x)
  | _, _ => none
noncomputable def lookD : List Str → List D → Str → Option D
  | k :: ks, d :: ds, x => if k = x then some d else lookD ks ds x
  | _, _, _ => none
noncomputable def sameAtom : D → D → Bool
  | .int a, .int b => a == b
  | .str a, .str b => a == b
  | _, _ => false
noncomputable def subDct (ks' : List Str) (ds' : List D) : List Str → List D → Bool
  | k :: ks, d :: ds => (match lookD ks' ds' k with
    | some d' => sameAtom d d'
    | none => false) && subDct ks' ds' ks ds
  | [], [] => true
  | _, _ => false
noncomputable def sameDct (ks : List Str) (ds : List D) (ks' : List Str) (ds' : List D) : Bool := ks.length == ks'.length && subDct ks' ds' ks ds
noncomputable def twoDct : D → Option ((List Str × List D) × List Str × List D)
  | .tup [.dct k1 d1, .dct k2 d2] => some ((k1, d1), (k2, d2))
  | _ => none
noncomputable def samePair (a b : D) : Bool := match twoDct a with
  | some p => match twoDct b with
    | some q => sameDct p.1.1 p.1.2 q.1.1 q.1.2 && sameDct p.2.1 p.2.2 q.2.1 q.2.2
    | none => false
  | none => false
noncomputable def cmpD : COp → D → D → Option Bool
  | .eq, .int a, .int b => some (a == b)
  | .ne, .int a, .int b => some (a != b)
  | .eq, .str a, .str b => some (a == b)
  | .ne, .str a, .str b => some (a != b)
  | .eq, .lst a, .lst [] => some (isNil a)
  | .ne, .lst a, .lst [] => some (!isNil a)
  | .ne, .lst a, .lst b => (eqStrs a b).map (!·)
  | .isIn, a, b => inD a b
  | .eq, a, b => if samePair a b then some true else none
  | _, _, _ => none
noncomputable def truthD : D → Option Bool
  | .bool b => some b
  | .int i => some (i != 0)
  | .str x => if x.length ≤ strLine then some ((x.length : Int) != 0) else none
  | .lst ds => if ds.length ≤ listLine then some (!isNil ds) else none
  | _ => none
noncomputable def idxOf (i : Int) (n : Nat) : Option Nat := if 0 ≤ i then (if i < n then some i.toNat else none) else if 0 ≤ i + n then some (i + n).toNat else none
noncomputable def storeD : List Str → List D → Str → D → List Str × List D
  | k :: ks, d :: ds, x, v => if k = x then (k :: ks, v :: ds) else (k :: (storeD ks ds x v).1, d :: (storeD ks ds x v).2)
  | _, _, x, v => ([x], [v])
noncomputable def itemD : D → D → Option D
  | .lst ds, .int i => (idxOf i ds.length).bind fun k => if ds.length ≤ listLine then ds[k]? else none
  | .tup ds, .int i => (idxOf i ds.length).bind fun k => if ds.length ≤ listLine then ds[k]? else none
  | .dct ks ds, .str x => lookD ks ds x
  | _, _ => none
noncomputable def cutAt (n : Nat) : Option D → Nat → Option Nat
  | none, d => some d
  | some (.int i), _ => if 0 ≤ i then some (min i.toNat n) else none
  | _, _ => none
noncomputable def partO : Option D → Option (Option Int)
  | none => some none
  | some (.int i) => some (some i)
  | _ => none
noncomputable def sliceD (a : D) (lo hi : Option D) : Option D := match a with
  | .lst ds => match cutAt ds.length lo 0, cutAt ds.length hi ds.length with
    | some i, some j => if ds.length ≤ listLine then some (.lst ((ds.take j).drop i)) else none
    | _, _ => none
  | .str x => match partO lo, partO hi with
    | some i, some j => if x.length ≤ strLine then some (.str (Txt.slice x i j)) else none
    | _, _ => none
  | _ => none
noncomputable def rangeD (a b : Int) : List D := (List.range (b - a).toNat).map fun (k : Nat) => .int (a + (k : Int))
noncomputable def enumD : Nat → List D → List D
  | _, [] => []
  | k, d :: r => .tup [.int k, d] :: enumD (k + 1) r
noncomputable def sumLen (xs : List Str) : Nat := (xs.map (·.length)).sum
noncomputable def biD : Bi → List D → Option D
  | .len, [.lst ds] => if ds.length ≤ listLine then some (.int ds.length) else none
  | .len, [.str x] => if x.length ≤ strLine then some (.int x.length) else none
  | .sorted, [.lst ds] => (strsOf ds).bind fun xs => if xs.length < 64 then some (.lst ((sortS xs).map .str)) else none
  | .sorted, [.dct ks _] => if ks.length < 64 then some (.lst ((sortS ks).map .str)) else none
  | .divmod, [.int a, .int b] => if b ≠ 0 ∧ a.natAbs < 2 ^ 62 ∧ b.natAbs < 2 ^ 62 then some (.tup [.int (a.fdiv b), .int (a.fmod b)]) else none
  | .type, [.str _] => some (.ty "str")
  | _, _ => none
noncomputable def meD : Me → D → List D → Option D
  | .rfind, .str x, [.str y] => some (.int (Txt.rfind x y))
  | .startswith, .str x, [.str y] => some (.bool (Txt.startswith x y))
  | .endswith, .str x, [.str y] => some (.bool (Txt.endswith x y))
  | .rstrip, .str x, [.str y] => if x.length ≤ strLine then some (.str (Txt.rstripChars x y)) else none
  | .split, .str x, [.str y] => if x.length ≤ strLine ∧ y.length ≠ 0 then some (.lst ((Txt.split x y).map .str)) else none
  | .join, .str x, [.lst ds] => (strsOf ds).bind fun ys => if x.length ≤ 16 ∧ sumLen ys + ys.length ≤ strLine then some (.str (Txt.join x ys)) else none
  | .get, .dct ks ds, [.str x, d] => some ((lookD ks ds x).getD d)
  | .index, .lst ds, [.str x] => (strsOf ds).bind fun ys => if ys.length ≤ 1000 ∧ x ∈ ys then some (.int (ys.idxOf x)) else none
  | _, _, _ => none
abbrev V := D × Bool
abbrev Rho := Nat → Option V
noncomputable def itV (d : D) (t : Bool) : V := (d, t && !d.atom)
structure FE where
  name : Str
  exact : Bool
  need : Nat
  g : List D → Option D
noncomputable def untaint (vs : List V) : Bool := vs.all fun v => !v.2
noncomputable def bindTg : Tg → V → Rho → Option Rho
  | .one i _, v, r => some fun k => if k = i then some v else r k
  | .two i _ j _ _ _, (.tup [a, b], t), r => some fun k => if k = j then some (itV b t) else if k = i then some (itV a t) else r k
  | _, _, _ => none
noncomputable def tgVars : Tg → List Nat
  | .one i _ => [i]
  | .two i _ j _ _ _ => [i, j]
noncomputable def gsVars : GS → List Nat
  | .nil => []
  | .cons t _ _ r => tgVars t ++ gsVars r
noncomputable def kvsOf : List D → Option (List (Str × D))
  | [] => some []
  | .tup [.str x, d] :: r => (kvsOf r).map ((x, d) :: ·)
  | _ :: _ => none
noncomputable def putAll (kvs : List (Str × D)) : List Str × List D := kvs.foldl (fun (m : List Str × List D) kv => storeD m.1 m.2 kv.1 kv.2) ([], [])
noncomputable def collectM {β : Type} (f : D → Option (List β)) : List D → Option (List β)
  | [] => some []
  | d :: r => match f d, collectM f r with
    | some x, some y => some (x ++ y)
    | _, _ => none
noncomputable def rel (sc₀ sc : Scope) : Scope := { sc with names := sc.names.map fun (n, k) => if (k == .free && sc₀.kind == .function && sc₀.names.lookup n == some .cell) then (n, .cell) else (n, k) }
noncomputable def isG (sc : Scope) (x : Str) : Bool := sc.names.lookup x == some .globalImplicit
noncomputable def downD (a b : Int) : D → D
  | .int k => .int (a + b - k)
  | d => d
noncomputable def rangeOf (g : Bool) : List V → Option (List D × Bool × Bool)
  | [(.int a, _)] => if g && decide (a.natAbs < 1000) then some (rangeD 0 a, false, false) else none
  | [(.int a, _), (.int b, _)] => if g && decide (a.natAbs < 1000 ∧ b.natAbs < 1000) then some (rangeD a b, false, false) else none
  | [(.int a, _), (.int b, _), (.int c, _)] => if g && decide (a.natAbs < 1000 ∧ b.natAbs < 1000 ∧ c = -1 ∧ b ≤ a) then some ((rangeD b a).map (downD a b), false, false) else none
  | _ => none
noncomputable def enumOf (g : Bool) : List V → Option (List D × Bool × Bool)
  | [(.lst ds, t)] => if g && decide (ds.length ≤ listLine) then some (enumD 0 ds, t, true) else none
  | _ => none
noncomputable def srcOf : Option V → Option (List D × Bool × Bool)
  | some (.lst ds, t) => if ds.length ≤ listLine then some (ds, t, false) else none
  | some (.tup ds, t) => if ds.length ≤ listLine then some (ds, t, false) else none
  | some (.str x, _) => if x.length ≤ strLine then some (x.cps.toList.map fun c => .str ⟨#[c]⟩, false, false) else none
  | _ => none
noncomputable def compOk (sc₀ sc : Scope) : Bool := sc.kind == .function && decide (sc.names.map (·.1)).Nodup && sc.names.all fun x => x.2 != .free || (sc₀.names.lookup x.1 == some .cell || sc₀.names.lookup x.1 == some .free)
noncomputable def putOk (sc : Scope) (x : Str) : Bool := sc.names.lookup x == some .local || sc.names.lookup x == some .cell
noncomputable def X.base : X → Bool
  | .call .. | .bi .. | .isSB .. | .isB .. => false
  | _ => true
noncomputable def Tg.two? : Tg → Bool
  | .one .. => false
  | .two .. => true
noncomputable def GS.single : GS → Bool
  | .cons _ _ _ .nil => true
  | _ => false
noncomputable def varsOk (nm : Nat → Str) (sc : Scope) (gs : GS) : Bool := (gsVars gs).all (fun i => putOk sc (nm i)) && decide (gsVars gs).Nodup
section
variable (nm : Nat → Str) (fn : Nat → Str) (FT : List FE)
noncomputable def inner (sc : Scope) (r : Rho) : Rho := fun k => if sc.names.lookup (nm k) == some .free then r k else none
mutual
noncomputable def ev : Nat → Scope → X → Bool → Rho → Option V
  | 0, _, _, _, _ => none
  | n + 1, sc, e, tp, r => match e with
    | .var i _ => r i
    | .int n _ _ => some (.int n, false)
    | .str x _ _ => some (.str x, false)
    | .neg e _ => match ev n sc e tp r with
      | some (.int i, _) => some (.int (-i), false)
      | _ => none
    | .bin op a b _ => match ev n sc a tp r, ev n sc b tp r with
      | some x, some y => (binD op x.1 y.1).map fun d => itV d (x.2 || y.2)
      | _, _ => none
    | .cmp op a b _ => match ev n sc a tp r, ev n sc b tp r with
      | some x, some y => (cmpD op x.1 y.1).map fun b => (.bool b, false)
      | _, _ => none
    | .ite t a b _ => match evT n sc t tp r with
      | some true => ev n sc a tp r
      | some false => ev n sc b tp r
      | none => none
    | .not .. => none
    | .and .. => none
    | .or .. => none
    | .item a b _ => match ev n sc a tp r, ev n sc b tp r with
      | some x, some y => (itemD x.1 y.1).map fun d => itV d x.2
      | _, _ => none
    | .slice a lo hi _ _ => match ev n sc a tp r, evO n sc lo tp r, evO n sc hi tp r with
      | some x, some l, some h => (sliceD x.1 l h).map fun d => itV d x.2
      | _, _, _ => none
    | .rev a _ _ _ _ _ => match ev n sc a tp r with
      | some (.lst ds, t) => if ds.length ≤ listLine then some (.lst ds.reverse, t) else none
      | _ => none
    | .list es _ => match evs n sc es tp r with
      | some vs => if vs.length ≤ 1000 then some (.lst (vs.map (·.1)), !untaint vs) else none
      | none => none
    | .tup es _ _ => match evs n sc es tp r with
      | some vs => if vs.length ≤ 1000 then some (.tup (vs.map (·.1)), !untaint vs) else none
      | none => none
    | .dict ks vs _ => match ks with
      | .nil => match vs with
        | .nil => some (.dct [] [], false)
        | _ => none
      | ks => match evP n sc ks vs tp r with
        | some kvs => if kvs.length ≤ 15 ∧ 0 < kvs.length ∧ (kvs.map (·.1)).Nodup ∧ untaint (kvs.map (·.2)) then some (.dct (kvs.map (·.1)) (kvs.map (·.2.1)), false) else none
        | _ => none
    | .lcomp e gs sc' _ => if compOk sc sc' && varsOk nm sc' gs then match evG0 n sc gs tp r with
      | some (items, tn, en) => match evG n (rel sc sc') gs items tn en (inner nm sc' r) (fun r' => match ev n (rel sc sc') e false r' with
          | some v => some [v]
          | none => none) with
        | some vs => if vs.length ≤ listLine ∧ untaint vs then some (.lst (vs.map (·.1)), false) else none
        | none => none
      | none => none else none
    | .dcomp k v gs sc' _ => if compOk sc sc' && varsOk nm sc' gs && gs.single then match evG0 n sc gs tp r with
      | some (items, tn, en) => match evG n (rel sc sc') gs items tn en (inner nm sc' r) (fun r' => match ev n (rel sc sc') k false r', ev n (rel sc sc') v false r' with
          | some (.str x, _), some (d, false) => some [(.tup [.str x, d], false)]
          | _, _ => none) with
        | some vs => if vs.length ≤ listLine then (kvsOf (vs.map (·.1))).map fun kvs => (let m := putAll kvs; (.dct m.1 m.2, false)) else none
        | none => none
      | none => none else none
    | .call f _ as _ => match FT[f]?, evs n sc as tp r with
      | some fe, some vs => if isG sc (fn f) && (tp || fe.exact) && decide (0 < vs.length ∧ vs.length < 10) then (fe.g (vs.map (·.1))).map fun d => itV d (!untaint vs) else none
      | _, _ => none
    | .bi b _ as _ => match evs n sc as tp r with
      | some vs => if isG sc b.py && decide (0 < vs.length ∧ vs.length < 10) then (biD b (vs.map (·.1))).map fun d => (d, false) else none
      | _ => none
    | .meth m o ap as p => match ev n sc o tp r, evs n sc as tp r with
      | some x, some vs => if ap.endLine == p.line && o.base && decide (0 < vs.length ∧ vs.length < 10) then (meD m x.1 (vs.map (·.1))).map fun d => itV d (x.2 || !untaint vs) else none
      | _, _ => none
    | .isSB e .. => match ev n sc e tp r with
      | some (.ty "str", _) => if isG sc "issubclass" && isG sc "str" && isG sc "bytes" then some (.bool true, false) else none
      | _ => none
    | .isB e .. => match ev n sc e tp r with
      | some (.str _, _) => if isG sc "isinstance" && isG sc "bytes" then some (.bool false, false) else none
      | _ => none
noncomputable def evs : Nat → Scope → XS → Bool → Rho → Option (List V)
  | 0, _, _, _, _ => none
  | n + 1, sc, es, tp, ρ => match es with
    | .nil => some []
    | .cons e r => match ev n sc e tp ρ, evs n sc r tp ρ with
      | some v, some vs => some (v :: vs)
      | _, _ => none
noncomputable def evP : Nat → Scope → XS → XS → Bool → Rho → Option (List (Str × V))
  | 0, _, _, _, _, _ => none
  | n + 1, sc, ks, vs, tp, ρ => match ks, vs with
    | .nil, .nil => some []
    | .cons k ks, .cons v vs => match ev n sc k tp ρ, ev n sc v tp ρ, evP n sc ks vs tp ρ with
      | some (.str x, _), some v, some r => some ((x, v) :: r)
      | _, _, _ => none
    | _, _ => none
noncomputable def evO : Nat → Scope → OX → Bool → Rho → Option (Option D)
  | 0, _, _, _, _ => none
  | n + 1, sc, e, tp, ρ => match e with
    | .none => some Option.none
    | .some e => match ev n sc e tp ρ with
      | some (.int i, _) => some (some (.int i))
      | _ => none
noncomputable def evT : Nat → Scope → X → Bool → Rho → Option Bool
  | 0, _, _, _, _ => none
  | n + 1, sc, e, tp, r => match e with
    | .not a _ => (evT n sc a tp r).map (!·)
    | .and a b _ => match evT n sc a tp r with
      | some true => evT n sc b tp r
      | some false => some false
      | none => none
    | .or a b _ => match evT n sc a tp r with
      | some true => some true
      | some false => evT n sc b tp r
      | none => none
    | .ite .. => none
    | .cmp op a b _ => match ev n sc a tp r, ev n sc b tp r with
      | some x, some y => cmpD op x.1 y.1
      | _, _ => none
    | e => match ev n sc e tp r with
      | some v => truthD v.1
      | none => none
noncomputable def evSrc : Nat → Scope → X → Bool → Rho → Option (List D × Bool × Bool)
  | 0, _, _, _, _ => none
  | n + 1, sc, e, tp, r => match e with
    | .bi .range _ as _ => match evs n sc as tp r with
      | some vs => rangeOf (isG sc "range") vs
      | none => none
    | .bi .enumerate _ as _ => match evs n sc as tp r with
      | some vs => enumOf (isG sc "enumerate") vs
      | none => none
    | e => srcOf (ev n sc e tp r)
noncomputable def evG0 : Nat → Scope → GS → Bool → Rho → Option (List D × Bool × Bool)
  | 0, _, _, _, _ => none
  | n + 1, sc, g, tp, r => match g with
    | .nil => none
    | .cons _ src _ _ => evSrc n sc src tp r
noncomputable def evG : Nat → Scope → GS → List D → Bool → Bool → Rho → (Rho → Option (List V)) → Option (List V)
  | 0, _, _, _, _, _, _, _ => none
  | n + 1, sc, g, items, tn, en, r, emit => match g with
    | .nil => none
    | .cons t _ ifs rest => 
      match rest with
      | .nil => if t.two? == en then collectM (fun d => match bindTg t (itV d tn) r with
        | some r' => match evIfs n sc ifs r' with
          | some true => emit r'
          | some false => some []
          | none => none
        | none => none) items else none
      | _ => none
noncomputable def evIfs : Nat → Scope → XS → Rho → Option Bool
  | 0, _, _, _ => none
  | n + 1, sc, e, ρ => match e with
    | .nil => some true
    | .cons e r => match evT n sc e false ρ with
      | some true => evIfs n sc r ρ
      | some false => some false
      | none => none
end
end
end Mine
end
section
set_option maxRecDepth 100000
open PySem PySem.W PyProof.Rows
set_option autoImplicit false
namespace Mine
namespace Q
section
variable {nm fn : Nat → Str} {FT : List FE} {n : Nat} {sc : Scope} {tp : Bool} {r : Rho}
theorem var (i : Nat) (p : Pos) : ev nm fn FT (n + 1) sc (.var i p) tp r = r i := rfl
theorem int (i : Int) (k : Nat) (p : Pos) : ev nm fn FT (n + 1) sc (.int i k p) tp r = some (.int i, false) := rfl
theorem str (x : Str) (k : Nat) (p : Pos) : ev nm fn FT (n + 1) sc (.str x k p) tp r = some (.str x, false) := rfl
theorem neg (e : X) (p : Pos) : ev nm fn FT (n + 1) sc (.neg e p) tp r = (match ev nm fn FT n sc e tp r with
      | some (.int i, _) => some (.int (-i), false)
      | _ => none) := rfl
theorem bin (op : BOp) (a b : X) (p : Pos) : ev nm fn FT (n + 1) sc (.bin op a b p) tp r = (match ev nm fn FT n sc a tp r, ev nm fn FT n sc b tp r with
      | some x, some y => (binD op x.1 y.1).map fun d => itV d (x.2 || y.2)
      | _, _ => none) := rfl
theorem cmp (op : COp) (a b : X) (p : Pos) : ev nm fn FT (n + 1) sc (.cmp op a b p) tp r = (match ev nm fn FT n sc a tp r, ev nm fn FT n sc b tp r with
      | some x, some y => (cmpD op x.1 y.1).map fun b => (.bool b, false)
      | _, _ => none) := rfl
theorem ite (t a b : X) (p : Pos) : ev nm fn FT (n + 1) sc (.ite t a b p) tp r = (match evT nm fn FT n sc t tp r with
      | some true => ev nm fn FT n sc a tp r
      | some false => ev nm fn FT n sc b tp r
      | none => none) := rfl
theorem item (a b : X) (p : Pos) : ev nm fn FT (n + 1) sc (.item a b p) tp r = (match ev nm fn FT n sc a tp r, ev nm fn FT n sc b tp r with
      | some x, some y => (itemD x.1 y.1).map fun d => itV d x.2
      | _, _ => none) := rfl
theorem slice (a : X) (lo hi : OX) (ps p : Pos) : ev nm fn FT (n + 1) sc (.slice a lo hi ps p) tp r = (match ev nm fn FT n sc a tp r, evO nm fn FT n sc lo tp r, evO nm fn FT n sc hi tp r with
      | some x, some l, some h => (sliceD x.1 l h).map fun d => itV d x.2
      | _, _, _ => none) := rfl
theorem rev (a : X) (k : Nat) (pc pn ps p : Pos) : ev nm fn FT (n + 1) sc (.rev a k pc pn ps p) tp r = (match ev nm fn FT n sc a tp r with
      | some (.lst ds, t) => if ds.length ≤ listLine then some (.lst ds.reverse, t) else none
      | _ => none) := rfl
theorem list (es : XS) (p : Pos) : ev nm fn FT (n + 1) sc (.list es p) tp r = (match evs nm fn FT n sc es tp r with
      | some vs => if vs.length ≤ 1000 then some (.lst (vs.map (·.1)), !untaint vs) else none
      | none => none) := rfl
theorem tup (es : XS) (k : Nat) (p : Pos) : ev nm fn FT (n + 1) sc (.tup es k p) tp r = (match evs nm fn FT n sc es tp r with
      | some vs => if vs.length ≤ 1000 then some (.tup (vs.map (·.1)), !untaint vs) else none
      | none => none) := rfl
theorem dict (k : X) (ks vs : XS) (p : Pos) : ev nm fn FT (n + 1) sc (.dict (.cons k ks) vs p) tp r = (match evP nm fn FT n sc (.cons k ks) vs tp r with
        | some kvs => if kvs.length ≤ 15 ∧ 0 < kvs.length ∧ (kvs.map (·.1)).Nodup ∧ untaint (kvs.map (·.2)) then some (.dct (kvs.map (·.1)) (kvs.map (·.2.1)), false) else none
        | _ => none) := rfl
theorem lcomp (e : X) (gs : GS) (sc' : Scope) (p : Pos) : ev nm fn FT (n + 1) sc (.lcomp e gs sc' p) tp r = (if compOk sc sc' && varsOk nm sc' gs then match evG0 nm fn FT n sc gs tp r with
      | some (items, tn, en) => match evG nm fn FT n (rel sc sc') gs items tn en (inner nm sc' r) (fun r' => match ev nm fn FT n (rel sc sc') e false r' with
          | some v => some [v]
          | none => none) with
        | some vs => if vs.length ≤ listLine ∧ untaint vs then some (.lst (vs.map (·.1)), false) else none
        | none => none
      | none => none else none) := rfl
theorem dcomp (k v : X) (gs : GS) (sc' : Scope) (p : Pos) : ev nm fn FT (n + 1) sc (.dcomp k v gs sc' p) tp r = (if compOk sc sc' && varsOk nm sc' gs && gs.single then match evG0 nm fn FT n sc gs tp r with
      | some (items, tn, en) => match evG nm fn FT n (rel sc sc') gs items tn en (inner nm sc' r) (fun r' => match ev nm fn FT n (rel sc sc') k false r', ev nm fn FT n (rel sc sc') v false r' with
          | some (.str x, _), some (d, false) => some [(.tup [.str x, d], false)]
          | _, _ => none) with
        | some vs => if vs.length ≤ listLine then (kvsOf (vs.map (·.1))).map fun kvs => (let m := putAll kvs; (.dct m.1 m.2, false)) else none
        | none => none
      | none => none else none) := rfl
theorem call (f : Nat) (fp : Pos) (as : XS) (p : Pos) : ev nm fn FT (n + 1) sc (.call f fp as p) tp r = (match FT[f]?, evs nm fn FT n sc as tp r with
      | some fe, some vs => if isG sc (fn f) && (tp || fe.exact) && decide (0 < vs.length ∧ vs.length < 10) then (fe.g (vs.map (·.1))).map fun d => itV d (!untaint vs) else none
      | _, _ => none) := rfl
theorem bi (b : Bi) (fp : Pos) (as : XS) (p : Pos) : ev nm fn FT (n + 1) sc (.bi b fp as p) tp r = (match evs nm fn FT n sc as tp r with
      | some vs => if isG sc b.py && decide (0 < vs.length ∧ vs.length < 10) then (biD b (vs.map (·.1))).map fun d => (d, false) else none
      | _ => none) := rfl
theorem meth (m : Me) (o : X) (ap : Pos) (as : XS) (p : Pos) : ev nm fn FT (n + 1) sc (.meth m o ap as p) tp r = (match ev nm fn FT n sc o tp r, evs nm fn FT n sc as tp r with
      | some x, some vs => if ap.endLine == p.line && o.base && decide (0 < vs.length ∧ vs.length < 10) then (meD m x.1 (vs.map (·.1))).map fun d => itV d (x.2 || !untaint vs) else none
      | _, _ => none) := rfl
theorem isSB (e : X) (p1 p2 p3 : Pos) (k : Nat) (p4 p : Pos) : ev nm fn FT (n + 1) sc (.isSB e p1 p2 p3 k p4 p) tp r = (match ev nm fn FT n sc e tp r with
      | some (.ty "str", _) => if isG sc "issubclass" && isG sc "str" && isG sc "bytes" then some (.bool true, false) else none
      | _ => none) := rfl
theorem isB (e : X) (p1 p2 p : Pos) : ev nm fn FT (n + 1) sc (.isB e p1 p2 p) tp r = (match ev nm fn FT n sc e tp r with
      | some (.str _, _) => if isG sc "isinstance" && isG sc "bytes" then some (.bool false, false) else none
      | _ => none) := rfl
theorem nil : evs nm fn FT (n + 1) sc .nil tp r = some [] := rfl
theorem cons (e : X) (es : XS) : evs nm fn FT (n + 1) sc (.cons e es) tp r = (match ev nm fn FT n sc e tp r, evs nm fn FT n sc es tp r with
      | some v, some vs => some (v :: vs)
      | _, _ => none) := rfl
theorem pnil : evP nm fn FT (n + 1) sc .nil .nil tp r = some [] := rfl
theorem pcons (k v : X) (ks vs : XS) : evP nm fn FT (n + 1) sc (.cons k ks) (.cons v vs) tp r = (match ev nm fn FT n sc k tp r, ev nm fn FT n sc v tp r, evP nm fn FT n sc ks vs tp r with
      | some (.str x, _), some v, some r => some ((x, v) :: r)
      | _, _, _ => none) := rfl
theorem onone : evO nm fn FT (n + 1) sc .none tp r = some Option.none := rfl
theorem osome (e : X) : evO nm fn FT (n + 1) sc (.some e) tp r = (match ev nm fn FT n sc e tp r with
      | some (.int i, _) => some (some (.int i))
      | _ => none) := rfl
theorem tnot (a : X) (p : Pos) : evT nm fn FT (n + 1) sc (.not a p) tp r = (evT nm fn FT n sc a tp r).map (!·) := rfl
theorem tand (a b : X) (p : Pos) : evT nm fn FT (n + 1) sc (.and a b p) tp r = (match evT nm fn FT n sc a tp r with
      | some true => evT nm fn FT n sc b tp r
      | some false => some false
      | none => none) := rfl
theorem tor (a b : X) (p : Pos) : evT nm fn FT (n + 1) sc (.or a b p) tp r = (match evT nm fn FT n sc a tp r with
      | some true => some true
      | some false => evT nm fn FT n sc b tp r
      | none => none) := rfl
theorem tcmp (op : COp) (a b : X) (p : Pos) : evT nm fn FT (n + 1) sc (.cmp op a b p) tp r = (match ev nm fn FT n sc a tp r, ev nm fn FT n sc b tp r with
      | some x, some y => cmpD op x.1 y.1
      | _, _ => none) := rfl
theorem tvar (i : Nat) (p : Pos) : evT nm fn FT (n + 1) sc (.var i p) tp r = (match ev nm fn FT n sc (.var i p) tp r with
      | some v => truthD v.1
      | none => none) := rfl
theorem tmeth (m : Me) (o : X) (ap : Pos) (as : XS) (p : Pos) : evT nm fn FT (n + 1) sc (.meth m o ap as p) tp r = (match ev nm fn FT n sc (.meth m o ap as p) tp r with
      | some v => truthD v.1
      | none => none) := rfl
theorem tisSB (e : X) (p1 p2 p3 : Pos) (k : Nat) (p4 p : Pos) : evT nm fn FT (n + 1) sc (.isSB e p1 p2 p3 k p4 p) tp r = (match ev nm fn FT n sc (.isSB e p1 p2 p3 k p4 p) tp r with
      | some v => truthD v.1
      | none => none) := rfl
theorem tisB (e : X) (p1 p2 p : Pos) : evT nm fn FT (n + 1) sc (.isB e p1 p2 p) tp r = (match ev nm fn FT n sc (.isB e p1 p2 p) tp r with
      | some v => truthD v.1
      | none => none) := rfl
theorem srange (fp : Pos) (as : XS) (p : Pos) : evSrc nm fn FT (n + 1) sc (.bi .range fp as p) tp r = (match evs nm fn FT n sc as tp r with
      | some vs => rangeOf (isG sc (Bi.py .range)) vs
      | none => none) := rfl
theorem rg1 (g : Bool) (a : Int) (t : Bool) : rangeOf g [(.int a, t)] = if g && decide (a.natAbs < 1000) then some (rangeD 0 a, false, false) else none := rfl
theorem rg2 (g : Bool) (a : Int) (t : Bool) (b : Int) (t' : Bool) : rangeOf g [(.int a, t), (.int b, t')] = if g && decide (a.natAbs < 1000 ∧ b.natAbs < 1000) then some (rangeD a b, false, false) else none := rfl
theorem rg3 (g : Bool) (a : Int) (t : Bool) (b : Int) (t' : Bool) (c : Int) (t'' : Bool) : rangeOf g [(.int a, t), (.int b, t'), (.int c, t'')] = if g && decide (a.natAbs < 1000 ∧ b.natAbs < 1000 ∧ c = -1 ∧ b ≤ a) then some ((rangeD b a).map (downD a b), false, false) else none := rfl
theorem senum (fp : Pos) (as : XS) (p : Pos) : evSrc nm fn FT (n + 1) sc (.bi .enumerate fp as p) tp r = (match evs nm fn FT n sc as tp r with
      | some vs => enumOf (isG sc (Bi.py .enumerate)) vs
      | none => none) := rfl
theorem en1 (g : Bool) (ds : List D) (t : Bool) : enumOf g [(.lst ds, t)] = if g && decide (ds.length ≤ listLine) then some (enumD 0 ds, t, true) else none := rfl
theorem svar (i : Nat) (p : Pos) : evSrc nm fn FT (n + 1) sc (.var i p) tp r = srcOf (ev nm fn FT n sc (.var i p) tp r) := rfl
theorem sitem (a b : X) (p : Pos) : evSrc nm fn FT (n + 1) sc (.item a b p) tp r = srcOf (ev nm fn FT n sc (.item a b p) tp r) := rfl
theorem sslice (a : X) (lo hi : OX) (ps p : Pos) : evSrc nm fn FT (n + 1) sc (.slice a lo hi ps p) tp r = srcOf (ev nm fn FT n sc (.slice a lo hi ps p) tp r) := rfl
theorem srev (a : X) (k : Nat) (pc pn ps p : Pos) : evSrc nm fn FT (n + 1) sc (.rev a k pc pn ps p) tp r = srcOf (ev nm fn FT n sc (.rev a k pc pn ps p) tp r) := rfl
theorem g0 (t : Tg) (src : X) (ifs : XS) (g : GS) : evG0 nm fn FT (n + 1) sc (.cons t src ifs g) tp r = evSrc nm fn FT n sc src tp r := rfl
theorem g1 (t : Tg) (src : X) (ifs : XS) (items : List D) (tn en : Bool) (emit : Rho → Option (List V)) : evG nm fn FT (n + 1) sc (.cons t src ifs .nil) items tn en r emit = (if t.two? == en then collectM (fun d => match bindTg t (itV d tn) r with
      | some r' => match evIfs nm fn FT n sc ifs r' with
        | some true => emit r'
        | some false => some []
        | none => none
      | none => none) items else none) := rfl
theorem inil : evIfs nm fn FT (n + 1) sc .nil r = some true := rfl
end
end Q
end Mine
end
section
open PySem PySem.W PyProof.Rows
set_option autoImplicit false
namespace Mine
noncomputable def frA (fr : List Env) : Addr → Prop := fun a => a ∈ fr.filterMap (·.frame)
noncomputable def SS (fr : List Env) (tp : Bool) : Addr → Prop := fun a => tp = true ∧ frA fr a
structure Cx (A : Around) (fr : List Env) (base h : Heap) (N : Nat) : Prop where
  hd : A.handled = none
  frs : A.frames = some fr
  stay : base.StaysIn h
  ff : h.FunFrames base fr
  dep : A.depth + N ≤ 990
  un : A.units + 16 * N + 200 ≤ cLine
  low : ∃ b o, sysModules ≤ b ∧ h.get? b = some o
theorem Cx.step {A : Around} {fr : List Env} {base h h' : Heap} {N : Nat} {tp : Bool} (x : Cx A fr base h N) (k : Kp (SS fr tp) h h') : Cx A fr base h' N :=
  ⟨x.hd, x.frs, fun b o e => k.out b o (fun hS => by rw [(x.ff.mem hS.2).1] at e; cases e) (x.stay b o e),
   x.ff.of_keeps fun b o e _ => let ⟨_, e'⟩ := k.all b o e; ⟨_, e', rfl⟩, x.dep, x.un, let ⟨b, o, q, e⟩ := x.low; let ⟨_, e'⟩ := k.all _ o e; ⟨b, _, q, e'⟩⟩
structure EnvG (env : Env) : Prop where
  kind : env.scope.kind = .function
  gl : env.globals = mainGlobals
  bl : env.builtins = builtinsNs
structure Fm (env : Env) (h : Heap) (σ : Str → Option Value) : Prop where
  ns : ∃ m, h.Ns env.locals m ∧ ∀ x, env.kindOf x = some .local → m x = σ x
  cell : ∀ x, (env.kindOf x = some .cell ∨ env.kindOf x = some .free) → ∃ c, env.cells.lookup x = some c ∧ h.IsCell c (σ x)
  inj : ∀ x y c, env.kindOf x = some .cell → (env.kindOf y = some .cell ∨ env.kindOf y = some .free) → env.cells.lookup x = some c → env.cells.lookup y = some c → x = y
theorem Fm.step {env : Env} {h h' : Heap} {σ : Str → Option Value} {S : Addr → Prop} (k : Kp S h h') (y : Fm env h σ) : Fm env h' σ :=
  ⟨let ⟨m, a, b⟩ := y.ns; ⟨m, k.ns a, b⟩, fun x hx => let ⟨c, a, b⟩ := y.cell x hx; ⟨c, a, k.cell b⟩, y.inj⟩
noncomputable def Fm.at (env : Env) (T : Str → Prop) : Addr → Prop := fun a => a = env.locals ∨ ∃ x, T x ∧ env.kindOf x = some .cell ∧ env.cells.lookup x = some a
noncomputable def Fm.all (env : Env) : Addr → Prop := fun a => a = env.locals ∨ ∃ x, (env.kindOf x = some .cell ∨ env.kindOf x = some .free) ∧ env.cells.lookup x = some a
noncomputable def seenK (k : Option NameKind) : Prop := k = some .local ∨ k = some .cell ∨ k = some .free
noncomputable def Holds (env : Env) (h : Heap) (x : Str) (v : Value) : Prop :=
  (env.kindOf x = some .local ∧ ∃ m, h.Ns env.locals m ∧ m x = some v) ∨
  ((env.kindOf x = some .cell ∨ env.kindOf x = some .free) ∧ ∃ c, env.cells.lookup x = some c ∧ h.IsCell c (some v))
theorem Fm.holds {env : Env} {h : Heap} {σ : Str → Option Value} (y : Fm env h σ) {x : Str} {v : Value} (hk : seenK (env.kindOf x)) (hv : σ x = some v) : Holds env h x v := by
  rcases hk with hk | hk | hk
  · obtain ⟨m, a, b⟩ := y.ns; exact .inl ⟨hk, m, a, (b x hk).trans hv⟩
  · obtain ⟨c, a, b⟩ := y.cell x (.inl hk); exact .inr ⟨.inl hk, c, a, hv ▸ b⟩
  · obtain ⟨c, a, b⟩ := y.cell x (.inr hk); exact .inr ⟨.inr hk, c, a, hv ▸ b⟩
section
variable (prog : Program) (w : World) (nm : Nat → Str)
noncomputable def Mean (env : Env) (h : Heap) (W : Bool → Addr → Prop) (σ : Str → Option Value) (ρ : Rho) : Prop :=
  ∀ i d t, ρ i = some (d, t) → seenK (env.kindOf (nm i)) ∧ ∃ u, σ (nm i) = some u ∧ R prog w h (W t) u d
structure EOk (env : Env) (sc : Scope) (h : Heap) (W : Bool → Addr → Prop) (ρ : Rho) : Prop where
  g : EnvG env
  sc : env.scope = sc
  fm : ∃ σ, Fm env h σ ∧ Mean prog w nm env h W σ ρ
end
structure WOk (fr : List Env) (W : Bool → Addr → Prop) (h : Heap) : Prop where
  fr : ∀ a, frA fr a → W true a
  le : ∀ a, W true a → W false a
  al : ∀ a, W false a → ∃ o, h.get? a = some o
theorem WOk.fr' {fr : List Env} {W : Bool → Addr → Prop} {h : Heap} (x : WOk fr W h) (tp t : Bool) : ∀ a, SS fr tp a → W t a := fun a hS => by
  cases t with
  | true => exact x.fr a hS.2
  | false => exact x.le a (x.fr a hS.2)
theorem WOk.new {fr : List Env} {W : Bool → Addr → Prop} {h : Heap} (x : WOk fr W h) (t : Bool) {a : Addr} (e : h.get? a = none) : ¬ W t a := fun q => by
  have q' : W false a := by cases t with | true => exact x.le a q | false => exact q
  obtain ⟨o, ho⟩ := x.al a q'
  rw [e] at ho; cases ho
section
variable {prog : Program} {w : World} {nm : Nat → Str}
theorem R.weak {h : Heap} {fr : List Env} {W : Bool → Addr → Prop} (x : WOk fr W h) (t t' : Bool) (ht : t = true → t' = true) {v : Value} {d : D} (r : R prog w h (W t) v d) : R prog w h (W t') v d :=
  r.mono (fun _ _ _ e => e) fun a q => .inl (by
    cases t <;> cases t' <;> first | exact q | exact x.le a q | cases ht rfl)
theorem RL.weak {h : Heap} {fr : List Env} {W : Bool → Addr → Prop} (x : WOk fr W h) (t t' : Bool) (ht : t = true → t' = true) {v : List Value} {d : List D} (r : RL prog w h (W t) v d) : RL prog w h (W t') v d :=
  r.mono (fun _ _ _ e => e) fun a q => .inl (by
    cases t <;> cases t' <;> first | exact q | exact x.le a q | cases ht rfl)
structure St (A : Around) (fr : List Env) (base : Heap) (N : Nat) (env : Env) (sc : Scope) (W : Bool → Addr → Prop) (ρ : Rho) (s : Shared) : Prop where
  cx : Cx A fr base s.heap N
  e : EOk prog w nm env sc s.heap W ρ
  wo : WOk fr W s.heap
  tk : 0 ≤ s.toks
end
section
variable {prog : Program} {w : World} {nm : Nat → Str} {A : Around} {fr : List Env} {base : Heap} {N : Nat} {env : Env} {sc : Scope} {W : Bool → Addr → Prop} {ρ : Rho} {s : Shared}
theorem WOk.step {S : Addr → Prop} {h h' : Heap} (x : WOk fr W h) (k : Kp S h h') : WOk fr W h' := ⟨x.fr, x.le, fun a q => let ⟨o, e⟩ := x.al a q; let ⟨_, e'⟩ := k.all a o e; ⟨_, e'⟩⟩
theorem EOk.step {tp : Bool} {h h' : Heap} (wo : WOk fr W h) (x : EOk prog w nm env sc h W ρ) (k : Kp (SS fr tp) h h') : EOk prog w nm env sc h' W ρ :=
  ⟨x.g, x.sc, let ⟨σ, a, b⟩ := x.fm; ⟨σ, a.step k, fun i d t e => let ⟨q, u, a, b⟩ := b i d t e; ⟨q, u, a, k.R (wo.fr' tp t) b⟩⟩⟩
theorem St.step {tp : Bool} {h' : Heap} {tk : Nat} (x : St (prog := prog) (w := w) (nm := nm) A fr base N env sc W ρ s) (hn : s.toks ≤ tk) (k : Kp (SS fr tp) s.heap h') : St (prog := prog) (w := w) (nm := nm) A fr base N env sc W ρ (up s h' tk) :=
  ⟨x.cx.step k, x.e.step x.wo k, x.wo.step k, Nat.le_trans x.tk hn⟩
end
abbrev EvP (prog : Program) (w : World) (fr : List Env) (W : Bool → Addr → Prop) (tp : Bool) (h : Heap) (v : V) : Value → Heap → Prop :=
  fun u h' => Kp (SS fr tp) h h' ∧ R prog w h' (W v.2) u v.1
inductive RVs (prog : Program) (w : World) (h : Heap) (W : Bool → Addr → Prop) : List Value → List V → Prop
  | nil : RVs prog w h W [] []
  | cons {u : Value} {us : List Value} {v : V} {vs : List V} : R prog w h (W v.2) u v.1 → RVs prog w h W us vs → RVs prog w h W (u :: us) (v :: vs)
abbrev EvsP (prog : Program) (w : World) (fr : List Env) (W : Bool → Addr → Prop) (tp : Bool) (h : Heap) (vs : List V) : List Value → Heap → Prop :=
  fun us h' => Kp (SS fr tp) h h' ∧ RVs prog w h' W us vs
section
variable {prog : Program} {w : World} {fr : List Env} {W : Bool → Addr → Prop} {h h' : Heap}
theorem RVs.length {us : List Value} {vs : List V} (x : RVs prog w h W us vs) : us.length = vs.length := by
  induction x with
  | nil => rfl
  | cons _ _ ih => rw [List.length_cons, List.length_cons, ih]
@[elab_as_elim] theorem RVs.one {us : List Value} {v : V} {m : List Value → Prop} (x : RVs prog w h W us [v]) (k : ∀ u, R prog w h (W v.2) u v.1 → m [u]) : m us := by
  cases x with | cons a x => cases x; exact k _ a
@[elab_as_elim] theorem RVs.two {us : List Value} {v v' : V} {m : List Value → Prop} (x : RVs prog w h W us [v, v']) (k : ∀ u u', R prog w h (W v.2) u v.1 → R prog w h (W v'.2) u' v'.1 → m [u, u']) : m us := by
  cases x with | cons a x => exact x.one fun b r => k _ b a r
@[elab_as_elim] theorem RVs.three {us : List Value} {v v' v'' : V} {m : List Value → Prop} (x : RVs prog w h W us [v, v', v'']) (k : ∀ u u' u'', R prog w h (W v.2) u v.1 → R prog w h (W v'.2) u' v'.1 → R prog w h (W v''.2) u'' v''.1 → m [u, u', u'']) : m us := by
  cases x with | cons a x => exact x.two fun b c r r' => k _ b c a r r'
theorem RVs.rl (wo : WOk fr W h) {us : List Value} {vs : List V} (x : RVs prog w h W us vs) (t : Bool) (ht : untaint vs = false → t = true) : RL prog w h (W t) us (vs.map (·.1)) := by
  induction x with
  | nil => exact .nil
  | @cons u us v vs r _ ih =>
    refine .cons (r.weak wo _ _ fun q => ht (by simp [untaint, q])) (ih fun q => ht ?_)
    simp only [untaint, List.all_cons, Bool.and_eq_false_iff] at q ⊢
    exact .inr q
end
section
variable {prog : Program} {w : World} {A : Around} {s : Shared} {env : Env}
theorem isBool_of {h : Heap} {W : Addr → Prop} {u : Value} {b : Bool} (r : R prog w h W u (.bool b)) : u = .bool b := by cases r; rfl
theorem isTy_of {h : Heap} {W : Addr → Prop} {u : Value} {T : String} (r : R prog w h W u (.ty T)) : u = .type T := by cases r; rfl
theorem isList_of_sq {h : Heap} {a : Addr} {vs : List Value} {n : Nat} (e : h.get? a = some (sq "list" vs n)) : h.IsList a vs.toArray := ⟨_, e, rfl, n, rfl⟩
theorem isTup_of_sq {h : Heap} {a : Addr} {vs : List Value} {n : Nat} (e : h.get? a = some (sq "tuple" vs n)) : IsTup h a vs.toArray := ⟨_, e, rfl, n, rfl⟩
end
end Mine
end
section
set_option maxRecDepth 100000
open PySem PySem.W PyProof.Rows
set_option autoImplicit false
namespace Mine
section
variable {a b d : D} {r : Bool} {ds : List D}
@[elab_as_elim] theorem binE {m : BOp → D → D → D → Prop} {op : BOp} (e : binD op a b = some d)
    (h0 : ∀ a b : Int, m .add (.int a) (.int b) (.int (a + b)))
    (h1 : ∀ a b : Str, a.length + b.length ≤ strLine → m .add (.str a) (.str b) (.str (a ++ b)))
    (h2 : ∀ a b : List D, a.length + b.length ≤ listLine → m .add (.lst a) (.lst b) (.lst (a ++ b)))
    (h3 : ∀ a b : Int, m .sub (.int a) (.int b) (.int (a - b)))
    (h4 : ∀ a b : Int, a.natAbs < 2 ^ 4096 ∧ b.natAbs < 2 ^ 4096 → m .mul (.int a) (.int b) (.int (a * b)))
    (h5 : ∀ (a : Str) (n : Int), a.length ≤ 16 ∧ 0 ≤ n ∧ n ≤ 100000 → m .mul (.str a) (.int n) (.str (Txt.mul a n)))
    (h6 : ∀ a b : Int, b ≠ 0 ∧ a.natAbs < 2 ^ 62 ∧ b.natAbs < 2 ^ 62 → m .fdiv (.int a) (.int b) (.int (a.fdiv b)))
    (h7 : ∀ a b : Int, b ≠ 0 → m .mod (.int a) (.int b) (.int (a.fmod b))) : m op a b d := by
  cases op with
  | add  =>
    cases a with
    | int x1 =>
      cases b with
      | int x2 =>
        exact someE e (h0 _ _)
      | _ =>
        exact optE e
    | str x3 =>
      cases b with
      | str x4 =>
        exact ifE e fun c e => someE e (h1 _ _ c)
      | _ =>
        exact optE e
    | lst x5 =>
      cases b with
      | lst x6 =>
        exact ifE e fun c e => someE e (h2 _ _ c)
      | _ =>
        exact optE e
    | _ =>
      exact optE e
  | sub  =>
    cases a with
    | int x7 =>
      cases b with
      | int x8 =>
        exact someE e (h3 _ _)
      | _ =>
        exact optE e
    | _ =>
      exact optE e
  | mul  =>
    cases a with
    | int x9 =>
      cases b with
      | int x10 =>
        exact ifE e fun c e => someE e (h4 _ _ c)
      | _ =>
        exact optE e
    | str x11 =>
      cases b with
      | int x12 =>
        exact ifE e fun c e => someE e (h5 _ _ c)
      | _ =>
        exact optE e
    | _ =>
      exact optE e
  | fdiv  =>
    cases a with
    | int x13 =>
      cases b with
      | int x14 =>
        exact ifE e fun c e => someE e (h6 _ _ c)
      | _ =>
        exact optE e
    | _ =>
      exact optE e
  | mod  =>
    cases a with
    | int x15 =>
      cases b with
      | int x16 =>
        exact ifE e fun c e => someE e (h7 _ _ c)
      | _ =>
        exact optE e
    | _ =>
      exact optE e
@[elab_as_elim] theorem inE {m : D → D → Bool → Prop} (e : inD a b = some r)
    (h0 : ∀ x y : Str, m (.str x) (.str y) (Txt.contains y x))
    (h1 : ∀ (x : Str) ds ys, strsOf ds = some ys → m (.str x) (.lst ds) (ys.any fun y => y == x))
    (h2 : ∀ (x : Str) ks ds, m (.str x) (.dct ks ds) (ks.contains x)) : m a b r := by
  cases a with
  | str x17 =>
    cases b with
    | str x18 =>
      exact someE e (h0 _ _)
    | lst x19 =>
      exact mapE e fun ys h => h1 _ _ _ h
    | dct x20 x21 =>
      exact someE e (h2 _ _ _)
    | _ =>
      exact optE e
  | _ =>
    exact optE e
@[elab_as_elim] theorem cmpE {m : COp → D → D → Bool → Prop} {op : COp} (e : cmpD op a b = some r)
    (h0 : ∀ a b : Int, m .eq (.int a) (.int b) (a == b))
    (h1 : ∀ a b : Int, m .ne (.int a) (.int b) (a != b))
    (h2 : ∀ a b : Str, m .eq (.str a) (.str b) (a == b))
    (h3 : ∀ a b : Str, m .ne (.str a) (.str b) (a != b))
    (h4 : ∀ a : List D, m .eq (.lst a) (.lst []) (isNil a))
    (h5 : ∀ a : List D, m .ne (.lst a) (.lst []) (!isNil a))
    (h6 : ∀ (a b : List D) q, eqStrs a b = some q → m .ne (.lst a) (.lst b) (!q))
    (h7 : ∀ a b r, inD a b = some r → m .isIn a b r)
    (h8 : ∀ a b, samePair a b = true → m .eq a b true) : m op a b r := by
  cases op with
  | eq  =>
    cases a with
    | int x22 =>
      cases b with
      | int x23 =>
        exact someE e (h0 _ _)
      | _ =>
        exact optE e
    | str x24 =>
      cases b with
      | str x25 =>
        exact someE e (h2 _ _)
      | _ =>
        exact optE e
    | lst x26 =>
      cases b with
      | lst x27 =>
        cases x27 with
        | nil  =>
          exact someE e (h4 _)
        | _ =>
          exact optE e
      | _ =>
        exact optE e
    | tup x28 =>
      exact ifE (c := samePair _ _ = true) (a := some true) e fun c e => someE e (h8 _ _ c)
    | _ =>
      exact optE e
  | ne  =>
    cases a with
    | int x29 =>
      cases b with
      | int x30 =>
        exact someE e (h1 _ _)
      | _ =>
        exact optE e
    | str x31 =>
      cases b with
      | str x32 =>
        exact someE e (h3 _ _)
      | _ =>
        exact optE e
    | lst x33 =>
      cases b with
      | lst x34 =>
        cases x34 with
        | nil  =>
          exact someE e (h5 _)
        | _ =>
          exact mapE e fun q h => h6 _ _ _ h
      | _ =>
        exact optE e
    | _ =>
      exact optE e
  | isIn  =>
    exact h7 _ _ _ e
@[elab_as_elim] theorem itemE {m : D → D → D → Prop} (e : itemD a b = some d)
    (h0 : ∀ ds i k, idxOf i ds.length = some k → ds.length ≤ listLine → ds[k]? = some d → m (.lst ds) (.int i) d)
    (h1 : ∀ ds i k, idxOf i ds.length = some k → ds.length ≤ listLine → ds[k]? = some d → m (.tup ds) (.int i) d)
    (h2 : ∀ ks ds x, lookD ks ds x = some d → m (.dct ks ds) (.str x) d) : m a b d := by
  cases a with
  | lst x35 =>
    cases b with
    | int x36 =>
      exact bindE e fun k h e => ifE e fun c e => h0 _ _ k h c e
    | _ =>
      exact optE e
  | tup x37 =>
    cases b with
    | int x38 =>
      exact bindE e fun k h e => ifE e fun c e => h1 _ _ k h c e
    | _ =>
      exact optE e
  | dct x39 x40 =>
    cases b with
    | str x41 =>
      exact h2 _ _ _ e
    | _ =>
      exact optE e
  | _ =>
    exact optE e
@[elab_as_elim] theorem biE {m : Bi → List D → D → Prop} {op : Bi} (e : biD op ds = some d)
    (h0 : ∀ ds : List D, ds.length ≤ listLine → m .len [.lst ds] (.int ds.length))
    (h1 : ∀ x : Str, x.length ≤ strLine → m .len [.str x] (.int x.length))
    (h2 : ∀ ds xs, strsOf ds = some xs → xs.length < 64 → m .sorted [.lst ds] (.lst ((sortS xs).map .str)))
    (h3 : ∀ ks ds, ks.length < 64 → m .sorted [.dct ks ds] (.lst ((sortS ks).map .str)))
    (h4 : ∀ a b : Int, b ≠ 0 ∧ a.natAbs < 2 ^ 62 ∧ b.natAbs < 2 ^ 62 → m .divmod [.int a, .int b] (.tup [.int (a.fdiv b), .int (a.fmod b)]))
    (h5 : ∀ x : Str, m .type [.str x] (.ty "str")) : m op ds d := by
  cases op with
  | len  =>
    cases ds with
    | cons x42 x43 =>
      cases x42 with
      | lst x44 =>
        cases x43 with
        | nil  =>
          exact ifE e fun c e => someE e (h0 _ c)
        | _ =>
          exact optE e
      | str x45 =>
        cases x43 with
        | nil  =>
          exact ifE e fun c e => someE e (h1 _ c)
        | _ =>
          exact optE e
      | _ =>
        exact optE e
    | _ =>
      exact optE e
  | sorted  =>
    cases ds with
    | cons x46 x47 =>
      cases x46 with
      | lst x48 =>
        cases x47 with
        | nil  =>
          exact bindE e fun xs h e => ifE e fun c e => someE e (h2 _ _ h c)
        | _ =>
          exact optE e
      | dct x49 x50 =>
        cases x47 with
        | nil  =>
          exact ifE e fun c e => someE e (h3 _ _ c)
        | _ =>
          exact optE e
      | _ =>
        exact optE e
    | _ =>
      exact optE e
  | divmod  =>
    cases ds with
    | cons x51 x52 =>
      cases x51 with
      | int x53 =>
        cases x52 with
        | cons x54 x55 =>
          cases x54 with
          | int x56 =>
            cases x55 with
            | nil  =>
              exact ifE e fun c e => someE e (h4 _ _ c)
            | _ =>
              exact optE e
          | _ =>
            exact optE e
        | _ =>
          exact optE e
      | _ =>
        exact optE e
    | _ =>
      exact optE e
  | type  =>
    cases ds with
    | cons x57 x58 =>
      cases x57 with
      | str x59 =>
        cases x58 with
        | nil  =>
          exact someE e (h5 _)
        | _ =>
          exact optE e
      | _ =>
        exact optE e
    | _ =>
      exact optE e
  | _ =>
    exact optE e
@[elab_as_elim] theorem meE {m : Me → D → List D → D → Prop} {op : Me} (e : meD op a ds = some d)
    (h0 : ∀ x y : Str, m .rfind (.str x) [.str y] (.int (Txt.rfind x y)))
    (h1 : ∀ x y : Str, m .startswith (.str x) [.str y] (.bool (Txt.startswith x y)))
    (h2 : ∀ x y : Str, m .endswith (.str x) [.str y] (.bool (Txt.endswith x y)))
    (h3 : ∀ x y : Str, x.length ≤ strLine → m .rstrip (.str x) [.str y] (.str (Txt.rstripChars x y)))
    (h4 : ∀ x y : Str, x.length ≤ strLine ∧ y.length ≠ 0 → m .split (.str x) [.str y] (.lst ((Txt.split x y).map .str)))
    (h5 : ∀ (x : Str) ds ys, strsOf ds = some ys → x.length ≤ 16 ∧ sumLen ys + ys.length ≤ strLine → m .join (.str x) [.lst ds] (.str (Txt.join x ys)))
    (h6 : ∀ ks ds x d, m .get (.dct ks ds) [.str x, d] ((lookD ks ds x).getD d))
    (h7 : ∀ ds (x : Str) ys, strsOf ds = some ys → ys.length ≤ 1000 ∧ x ∈ ys → m .index (.lst ds) [.str x] (.int (ys.idxOf x))) : m op a ds d := by
  cases op with
  | rfind  =>
    cases a with
    | str x60 =>
      cases ds with
      | cons x61 x62 =>
        cases x61 with
        | str x63 =>
          cases x62 with
          | nil  =>
            exact someE e (h0 _ _)
          | _ =>
            exact optE e
        | _ =>
          exact optE e
      | _ =>
        exact optE e
    | _ =>
      exact optE e
  | startswith  =>
    cases a with
    | str x64 =>
      cases ds with
      | cons x65 x66 =>
        cases x65 with
        | str x67 =>
          cases x66 with
          | nil  =>
            exact someE e (h1 _ _)
          | _ =>
            exact optE e
        | _ =>
          exact optE e
      | _ =>
        exact optE e
    | _ =>
      exact optE e
  | endswith  =>
    cases a with
    | str x68 =>
      cases ds with
      | cons x69 x70 =>
        cases x69 with
        | str x71 =>
          cases x70 with
          | nil  =>
            exact someE e (h2 _ _)
          | _ =>
            exact optE e
        | _ =>
          exact optE e
      | _ =>
        exact optE e
    | _ =>
      exact optE e
  | rstrip  =>
    cases a with
    | str x72 =>
      cases ds with
      | cons x73 x74 =>
        cases x73 with
        | str x75 =>
          cases x74 with
          | nil  =>
            exact ifE e fun c e => someE e (h3 _ _ c)
          | _ =>
            exact optE e
        | _ =>
          exact optE e
      | _ =>
        exact optE e
    | _ =>
      exact optE e
  | split  =>
    cases a with
    | str x76 =>
      cases ds with
      | cons x77 x78 =>
        cases x77 with
        | str x79 =>
          cases x78 with
          | nil  =>
            exact ifE e fun c e => someE e (h4 _ _ c)
          | _ =>
            exact optE e
        | _ =>
          exact optE e
      | _ =>
        exact optE e
    | _ =>
      exact optE e
  | join  =>
    cases a with
    | str x80 =>
      cases ds with
      | cons x81 x82 =>
        cases x81 with
        | lst x83 =>
          cases x82 with
          | nil  =>
            exact bindE e fun ys h e => ifE e fun c e => someE e (h5 _ _ _ h c)
          | _ =>
            exact optE e
        | _ =>
          exact optE e
      | _ =>
        exact optE e
    | _ =>
      exact optE e
  | get  =>
    cases a with
    | dct x84 x85 =>
      cases ds with
      | cons x86 x87 =>
        cases x86 with
        | str x88 =>
          cases x87 with
          | cons x89 x90 =>
            cases x90 with
            | nil  =>
              exact someE e (h6 _ _ _ _)
            | _ =>
              exact optE e
          | _ =>
            exact optE e
        | _ =>
          exact optE e
      | _ =>
        exact optE e
    | _ =>
      exact optE e
  | index  =>
    cases a with
    | lst x91 =>
      cases ds with
      | cons x92 x93 =>
        cases x92 with
        | str x94 =>
          cases x93 with
          | nil  =>
            exact bindE e fun ys h e => ifE e fun c e => someE e (h7 _ _ _ h c)
          | _ =>
            exact optE e
        | _ =>
          exact optE e
      | _ =>
        exact optE e
    | _ =>
      exact optE e
@[elab_as_elim] theorem truthE {m : D → Bool → Prop} (e : truthD a = some r)
    (h0 : ∀ b, m (.bool b) b)
    (h1 : ∀ i : Int, m (.int i) (i != 0))
    (h2 : ∀ x : Str, x.length ≤ strLine → m (.str x) ((x.length : Int) != 0))
    (h3 : ∀ ds, ds.length ≤ listLine → m (.lst ds) (!isNil ds)) : m a r := by
  cases a with
  | bool x95 =>
    exact someE e (h0 _)
  | int x96 =>
    exact someE e (h1 _)
  | str x97 =>
    exact ifE e fun c e => someE e (h2 _ c)
  | lst x98 =>
    exact ifE e fun c e => someE e (h3 _ c)
  | _ =>
    exact optE e
theorem opt2E {α β γ : Type} {A : Option α} {B : Option β} {f : α → β → Option γ} {d : γ} {G : Prop} (h : (A.bind fun a => B.bind fun b => f a b) = some d) (k : ∀ a b, A = some a → B = some b → f a b = some d → G) : G :=
  bindE h fun a h1 h => bindE h fun b h2 h => k a b h1 h2 h
@[elab_as_elim] theorem sliceE {m : D → D → Prop} {lo hi : Option D} (e : sliceD a lo hi = some d) (h0 : ∀ ds i j, cutAt ds.length lo 0 = some i → cutAt ds.length hi ds.length = some j → ds.length ≤ listLine → m (.lst ds) (.lst ((ds.take j).drop i)))
    (h1 : ∀ x i j, partO lo = some i → partO hi = some j → x.length ≤ strLine → m (.str x) (.str (Txt.slice x i j))) : m a d := by
  cases a with
  | lst ds =>
    have e : ((cutAt ds.length lo 0).bind fun i => (cutAt ds.length hi ds.length).bind fun j => if ds.length ≤ listLine then some (D.lst ((ds.take j).drop i)) else none) = some d := by
      rw [← e]; show _ = (match cutAt ds.length lo 0, cutAt ds.length hi ds.length with
        | some i, some j => if ds.length ≤ listLine then some (D.lst ((ds.take j).drop i)) else none
        | _, _ => none)
      cases cutAt ds.length lo 0 <;> cases cutAt ds.length hi ds.length <;> rfl
    exact opt2E e fun i j a b e => ifE e fun c e => someE e (h0 _ _ _ a b c)
  | str x =>
    have e : ((partO lo).bind fun i => (partO hi).bind fun j => if x.length ≤ strLine then some (D.str (Txt.slice x i j)) else none) = some d := by
      rw [← e]; show _ = (match partO lo, partO hi with
        | some i, some j => if x.length ≤ strLine then some (D.str (Txt.slice x i j)) else none
        | _, _ => none)
      cases partO lo <;> cases partO hi <;> rfl
    exact opt2E e fun i j a b e => ifE e fun c e => someE e (h1 _ _ _ a b c)
  | _ => exact optE e
end
end Mine
end
section
open PySem PySem.W PyProof.Rows
set_option autoImplicit false
namespace Mine
noncomputable def itemsD : D → Option (List D)
  | .lst ds => if ds.length ≤ listLine then some ds else none
  | .tup ds => if ds.length ≤ listLine then some ds else none
  | .str x => if x.length ≤ strLine then some (x.cps.toList.map fun c => .str ⟨#[c]⟩) else none
  | _ => none
namespace I
section
variable {δ : Type} {d : δ} {G : Prop} {A B : Option V}
noncomputable def intD : D → Option Int
  | .int i => some i
  | _ => none
noncomputable def strD : D → Option Str
  | .str x => some x
  | _ => none
noncomputable def lstD : D → Option (List D)
  | .lst ds => some ds
  | _ => none
noncomputable def tupD : D → Option (List D)
  | .tup ds => some ds
  | _ => none
theorem intD_eq {x : D} {i : Int} (h : intD x = some i) : x = .int i := by cases x <;> first | exact someE h rfl | exact optE h
theorem strD_eq {x : D} {i : Str} (h : strD x = some i) : x = .str i := by cases x <;> first | exact someE h rfl | exact optE h
theorem lstD_eq {x : D} {i : List D} (h : lstD x = some i) : x = .lst i := by cases x <;> first | exact someE h rfl | exact optE h
theorem tupD_eq {x : D} {i : List D} (h : tupD x = some i) : x = .tup i := by cases x <;> first | exact someE h rfl | exact optE h
theorem b1 {f : V → Option δ} (h : (match A with | some x => f x | none => none) = some d) (k : ∀ x, A = some x → f x = some d → G) : G := by
  cases A with
  | none => exact optE h
  | some x => exact k x rfl h
theorem b2 {f : V → V → Option δ} (h : (match A, B with | some x, some y => f x y | _, _ => none) = some d) (k : ∀ x y, A = some x → B = some y → f x y = some d → G) : G := by
  cases A with
  | none => exact optE h
  | some x => cases B with
    | none => exact optE h
    | some y => exact k x y rfl rfl h
theorem mInt {f : Int → Bool → Option δ} (h : (match A with | some (.int i, t) => f i t | _ => none) = some d) (k : ∀ i t, A = some (.int i, t) → f i t = some d → G) : G := by
  rcases A with _ | ⟨x, t⟩
  · exact optE h
  have e : (match some (x, t) with | some (.int i, t) => f i t | _ => none) = (intD x).bind (fun i => f i t) := by clear h k; cases x <;> rfl
  exact bindE (e.symm.trans h) fun i h1 h2 => k i t (by rw [intD_eq h1]) h2
theorem mLst {f : List D → Bool → Option δ} (h : (match A with | some (.lst i, t) => f i t | _ => none) = some d) (k : ∀ i t, A = some (.lst i, t) → f i t = some d → G) : G := by
  rcases A with _ | ⟨x, t⟩
  · exact optE h
  have e : (match some (x, t) with | some (.lst i, t) => f i t | _ => none) = (lstD x).bind (fun i => f i t) := by clear h k; cases x <;> rfl
  exact bindE (e.symm.trans h) fun i h1 h2 => k i t (by rw [lstD_eq h1]) h2
theorem mStr {f : Str → Bool → Option δ} (h : (match A with | some (.str i, t) => f i t | _ => none) = some d) (k : ∀ i t, A = some (.str i, t) → f i t = some d → G) : G := by
  rcases A with _ | ⟨x, t⟩
  · exact optE h
  have e : (match some (x, t) with | some (.str i, t) => f i t | _ => none) = (strD x).bind (fun i => f i t) := by clear h k; cases x <;> rfl
  exact bindE (e.symm.trans h) fun i h1 h2 => k i t (by rw [strD_eq h1]) h2
theorem mSF {f : Str → D → Option δ} (h : (match A, B with | some (.str x, _), some (d, false) => f x d | _, _ => none) = some d) (k : ∀ x t v, A = some (.str x, t) → B = some (v, false) → f x v = some d → G) : G := by
  rcases A with _ | ⟨x, t⟩
  · exact optE h
  have e : (match (generalizing := false) some (x, t), B with | some (.str x, _), some (d, false) => f x d | _, _ => none) = (strD x).bind (fun x => match B with | some (d, false) => f x d | _ => none) := by
    clear h k; cases x <;> first | rfl | (rcases B with _ | ⟨_, _ | _⟩ <;> rfl)
  refine bindE (e.symm.trans h) fun x h1 h => ?_
  rcases B with _ | ⟨v, _ | _⟩
  · exact optE h
  · exact k x t v (by rw [strD_eq h1]) rfl h
  · exact optE h
theorem mTy {f : Option δ} (h : (match A with | some (.ty "str", _) => f | _ => none) = some d) (k : ∀ t, A = some (.ty "str", t) → f = some d → G) : G := by
  split at h
  · exact k _ rfl h
  · exact optE h
theorem bR {A : Option Rho} {f : Rho → Option δ} (h : (match A with | some x => f x | none => none) = some d) (k : ∀ x, A = some x → f x = some d → G) : G := by
  cases A with
  | none => exact optE h
  | some x => exact k x rfl h
theorem bS {A : Option (List D × Bool × Bool)} {f : List D → Bool → Bool → Option δ} (h : (match A with | some (x, y, z) => f x y z | none => none) = some d) (k : ∀ x y z, A = some (x, y, z) → f x y z = some d → G) : G := by
  cases A with
  | none => exact optE h
  | some x => exact k x.1 x.2.1 x.2.2 rfl h
theorem bT {f g : Option δ} {A : Option Bool} (h : (match A with | some true => f | some false => g | none => none) = some d) (k1 : A = some true → f = some d → G) (k2 : A = some false → g = some d → G) : G := by
  rcases A with _ | _ | _
  · exact optE h
  · exact k2 rfl h
  · exact k1 rfl h
theorem bL {A : Option (List V)} {f : List V → Option δ} (h : (match A with | some x => f x | none => none) = some d) (k : ∀ x, A = some x → f x = some d → G) : G := by
  cases A with
  | none => exact optE h
  | some x => exact k x rfl h
theorem bL' {A : Option (List V)} {f : List V → Option δ} (h : (match A with | some x => f x | _ => none) = some d) (k : ∀ x, A = some x → f x = some d → G) : G := by
  cases A with
  | none => exact optE h
  | some x => exact k x rfl h
theorem b2L {B : Option (List V)} {f : V → List V → Option δ} (h : (match A, B with | some x, some y => f x y | _, _ => none) = some d) (k : ∀ x y, A = some x → B = some y → f x y = some d → G) : G := by
  cases A with
  | none => exact optE h
  | some x => cases B with
    | none => exact optE h
    | some y => exact k x y rfl rfl h
theorem bFL {A : Option FE} {B : Option (List V)} {f : FE → List V → Option δ} (h : (match A, B with | some x, some y => f x y | _, _ => none) = some d) (k : ∀ x y, A = some x → B = some y → f x y = some d → G) : G := by
  cases A with
  | none => exact optE h
  | some x => cases B with
    | none => exact optE h
    | some y => exact k x y rfl rfl h
theorem bVOO {B C : Option (Option D)} {f : V → Option D → Option D → Option δ} (h : (match A, B, C with | some x, some y, some z => f x y z | _, _, _ => none) = some d) (k : ∀ x y z, A = some x → B = some y → C = some z → f x y z = some d → G) : G := by
  cases A with
  | none => exact optE h
  | some x => cases B with
    | none => exact optE h
    | some y => cases C with
      | none => exact optE h
      | some z => exact k x y z rfl rfl rfl h
theorem bP {C : Option (List (Str × V))} {f : Str → V → List (Str × V) → Option δ} (h : (match A, B, C with | some (.str x, _), some v, some r => f x v r | _, _, _ => none) = some d) (k : ∀ x t v r, A = some (.str x, t) → B = some v → C = some r → f x v r = some d → G) : G := by
  rcases A with _ | ⟨x, t⟩
  · exact optE h
  have e : (match (generalizing := false) some (x, t), B, C with | some (.str x, _), some v, some r => f x v r | _, _, _ => none) = (strD x).bind (fun x => B.bind fun v => C.bind fun r => f x v r) := by
    clear h k; cases x <;> first | rfl | (cases B <;> cases C <;> rfl)
  exact bindE (e.symm.trans h) fun x h1 h => bindE h fun v h2 h => bindE h fun r h3 h => k x t v r (by rw [strD_eq h1]) h2 h3 h
end
section
variable {nm fn : Nat → Str} {FT : List FE} {n : Nat} {sc : Scope} {tp : Bool} {r : Rho} {m : V → Prop} {v : V}
@[elab_as_elim] theorem neg {e : X} {p : Pos} (h : ev nm fn FT (n + 1) sc (.neg e p) tp r = some v) (k : ∀ i t, ev nm fn FT n sc e tp r = some (.int i, t) → m (.int (-i), false)) : m v :=
  mInt h fun i t h1 h => someE h (k i t h1)
@[elab_as_elim] theorem bin {op : BOp} {a b : X} {p : Pos} (h : ev nm fn FT (n + 1) sc (.bin op a b p) tp r = some v) (k : ∀ x y d, ev nm fn FT n sc a tp r = some x → ev nm fn FT n sc b tp r = some y → binD op x.1 y.1 = some d → m (itV d (x.2 || y.2))) : m v :=
  b2 h fun x y h1 h2 h => mapE h fun d e => k x y d h1 h2 e
@[elab_as_elim] theorem cmp {op : COp} {a b : X} {p : Pos} (h : ev nm fn FT (n + 1) sc (.cmp op a b p) tp r = some v) (k : ∀ x y d, ev nm fn FT n sc a tp r = some x → ev nm fn FT n sc b tp r = some y → cmpD op x.1 y.1 = some d → m (.bool d, false)) : m v :=
  b2 h fun x y h1 h2 h => mapE h fun d e => k x y d h1 h2 e
theorem ite {G : Prop} {t a b : X} {p : Pos} (h : ev nm fn FT (n + 1) sc (.ite t a b p) tp r = some v) (k1 : evT nm fn FT n sc t tp r = some true → ev nm fn FT n sc a tp r = some v → G) (k2 : evT nm fn FT n sc t tp r = some false → ev nm fn FT n sc b tp r = some v → G) : G :=
  bT h k1 k2
@[elab_as_elim] theorem item {a b : X} {p : Pos} (h : ev nm fn FT (n + 1) sc (.item a b p) tp r = some v) (k : ∀ x y d, ev nm fn FT n sc a tp r = some x → ev nm fn FT n sc b tp r = some y → itemD x.1 y.1 = some d → m (itV d x.2)) : m v :=
  b2 h fun x y h1 h2 h => mapE h fun d e => k x y d h1 h2 e
@[elab_as_elim] theorem slice {a : X} {lo hi : OX} {ps p : Pos} (h : ev nm fn FT (n + 1) sc (.slice a lo hi ps p) tp r = some v)
    (k : ∀ x y z d, ev nm fn FT n sc a tp r = some x → evO nm fn FT n sc lo tp r = some y → evO nm fn FT n sc hi tp r = some z → sliceD x.1 y z = some d → m (itV d x.2)) : m v :=
  bVOO h fun x y z h1 h2 h3 h => mapE h fun d e => k x y z d h1 h2 h3 e
@[elab_as_elim] theorem rev {a : X} {k : Nat} {pc pn ps p : Pos} (h : ev nm fn FT (n + 1) sc (.rev a k pc pn ps p) tp r = some v) (k : ∀ ds t, ev nm fn FT n sc a tp r = some (.lst ds, t) → ds.length ≤ listLine → m (.lst ds.reverse, t)) : m v :=
  mLst h fun ds t h1 h => ifE h fun c h => someE h (k ds t h1 c)
@[elab_as_elim] theorem list {es : XS} {p : Pos} (h : ev nm fn FT (n + 1) sc (.list es p) tp r = some v) (k : ∀ vs, evs nm fn FT n sc es tp r = some vs → vs.length ≤ 1000 → m (.lst (vs.map (·.1)), !untaint vs)) : m v :=
  bL h fun vs h1 h => ifE h fun c h => someE h (k vs h1 c)
@[elab_as_elim] theorem tup {es : XS} {i : Nat} {p : Pos} (h : ev nm fn FT (n + 1) sc (.tup es i p) tp r = some v) (k : ∀ vs, evs nm fn FT n sc es tp r = some vs → vs.length ≤ 1000 → m (.tup (vs.map (·.1)), !untaint vs)) : m v :=
  bL h fun vs h1 h => ifE h fun c h => someE h (k vs h1 c)
theorem and3 {a b c : Bool} (h : (a && b && c) = true) : a = true ∧ b = true ∧ c = true := by
  rw [Bool.and_eq_true, Bool.and_eq_true] at h; exact ⟨h.1.1, h.1.2, h.2⟩
@[elab_as_elim] theorem call {f : Nat} {fp : Pos} {as : XS} {p : Pos} (h : ev nm fn FT (n + 1) sc (.call f fp as p) tp r = some v)
    (k : ∀ fe vs d, FT[f]? = some fe → evs nm fn FT n sc as tp r = some vs → isG sc (fn f) = true → (tp || fe.exact) = true → 0 < vs.length ∧ vs.length < 10 → fe.g (vs.map (·.1)) = some d → m (itV d (!untaint vs))) : m v :=
  bFL h fun fe vs h1 h2 h => ifE h fun c h => mapE h fun d h3 => k fe vs d h1 h2 (and3 c).1 (and3 c).2.1 (of_decide_eq_true (and3 c).2.2) h3
@[elab_as_elim] theorem bi {b : Bi} {fp : Pos} {as : XS} {p : Pos} (h : ev nm fn FT (n + 1) sc (.bi b fp as p) tp r = some v)
    (k : ∀ vs d, evs nm fn FT n sc as tp r = some vs → isG sc b.py = true → 0 < vs.length ∧ vs.length < 10 → biD b (vs.map (·.1)) = some d → m (d, false)) : m v :=
  bL' h fun vs h1 h => ifE h fun c h => mapE h fun d h3 => k vs d h1 (((Bool.and_eq_true _ _).mp c).1) (of_decide_eq_true ((Bool.and_eq_true _ _).mp c).2) h3
@[elab_as_elim] theorem meth {f : Me} {o : X} {ap : Pos} {as : XS} {p : Pos} (h : ev nm fn FT (n + 1) sc (.meth f o ap as p) tp r = some v)
    (k : ∀ x vs d, ev nm fn FT n sc o tp r = some x → evs nm fn FT n sc as tp r = some vs → (ap.endLine == p.line) = true → o.base = true → 0 < vs.length ∧ vs.length < 10 → meD f x.1 (vs.map (·.1)) = some d → m (itV d (x.2 || !untaint vs))) : m v :=
  b2L h fun x vs h1 h2 h => ifE h fun c h => mapE h fun d h3 => k x vs d h1 h2 (and3 c).1 (and3 c).2.1 (of_decide_eq_true (and3 c).2.2) h3
@[elab_as_elim] theorem isSB {e : X} {p1 p2 p3 : Pos} {i : Nat} {p4 p : Pos} (h : ev nm fn FT (n + 1) sc (.isSB e p1 p2 p3 i p4 p) tp r = some v)
    (k : ∀ t, ev nm fn FT n sc e tp r = some (.ty "str", t) → isG sc "issubclass" = true → isG sc "str" = true → isG sc "bytes" = true → m (.bool true, false)) : m v :=
  mTy h fun t h1 h => ifE h fun c h => someE h (k t h1 (and3 c).1 (and3 c).2.1 (and3 c).2.2)
@[elab_as_elim] theorem isB {e : X} {p1 p2 p : Pos} (h : ev nm fn FT (n + 1) sc (.isB e p1 p2 p) tp r = some v)
    (k : ∀ x t, ev nm fn FT n sc e tp r = some (.str x, t) → isG sc "isinstance" = true → isG sc "bytes" = true → m (.bool false, false)) : m v :=
  mStr h fun x t h1 h => ifE h fun c h => someE h (k x t h1 ((Bool.and_eq_true _ _).mp c).1 ((Bool.and_eq_true _ _).mp c).2)
theorem bD {A : Option (List (Str × V))} {f : List (Str × V) → Option V} (h : (match A with | some x => f x | _ => none) = some v) {G : Prop} (k : ∀ x, A = some x → f x = some v → G) : G := by
  cases A with
  | none => exact optE h
  | some x => exact k x rfl h
@[elab_as_elim] theorem dict {k0 : X} {ks es : XS} {p : Pos} (h : ev nm fn FT (n + 1) sc (.dict (.cons k0 ks) es p) tp r = some v)
    (k : ∀ kvs, evP nm fn FT n sc (.cons k0 ks) es tp r = some kvs → kvs.length ≤ 15 → 0 < kvs.length → (kvs.map (·.1)).Nodup → untaint (kvs.map (·.2)) = true → m (.dct (kvs.map (·.1)) (kvs.map (·.2.1)), false)) : m v :=
  bD h fun kvs h1 h => ifE h fun c h => someE h (k kvs h1 c.1 c.2.1 c.2.2.1 c.2.2.2)
@[elab_as_elim] theorem cons {ms : List V → Prop} {vs : List V} {e : X} {es : XS} (h : evs nm fn FT (n + 1) sc (.cons e es) tp r = some vs) (k : ∀ v vs, ev nm fn FT n sc e tp r = some v → evs nm fn FT n sc es tp r = some vs → ms (v :: vs)) : ms vs :=
  b2L h fun v vs h1 h2 h => someE h (k v vs h1 h2)
@[elab_as_elim] theorem pcons {ms : List (Str × V) → Prop} {vs : List (Str × V)} {k v : X} {ks es : XS} (h : evP nm fn FT (n + 1) sc (.cons k ks) (.cons v es) tp r = some vs)
    (c : ∀ x t v' r', ev nm fn FT n sc k tp r = some (.str x, t) → ev nm fn FT n sc v tp r = some v' → evP nm fn FT n sc ks es tp r = some r' → ms ((x, v') :: r')) : ms vs :=
  bP h fun x t v' r' h1 h2 h3 h => someE h (c x t v' r' h1 h2 h3)
@[elab_as_elim] theorem osome {mo : Option D → Prop} {o : Option D} {e : X} (h : evO nm fn FT (n + 1) sc (.some e) tp r = some o) (k : ∀ i t, ev nm fn FT n sc e tp r = some (.int i, t) → mo (some (.int i))) : mo o :=
  mInt h fun i t h1 h => someE h (k i t h1)
theorem tcmp {G : Prop} {c : Bool} {op : COp} {a b : X} {p : Pos} (h : evT nm fn FT (n + 1) sc (.cmp op a b p) tp r = some c) (k : ∀ x y, ev nm fn FT n sc a tp r = some x → ev nm fn FT n sc b tp r = some y → cmpD op x.1 y.1 = some c → G) : G :=
  b2 h k
theorem srcE {G : Prop} {A : Option V} {ds : List D} {t en : Bool} (h : srcOf A = some (ds, t, en)) (k : ∀ d t', A = some (d, t') → itemsD d = some ds → en = false → (d.atom = true ∨ t = t') → G) : G := by
  rcases A with _ | ⟨d, t'⟩
  · exact optE h
  cases d with
  | lst ds' => exact ifE h fun c h => k _ _ rfl ((if_pos c).trans (congrArg (fun p => some p.1) (Option.some.inj h))) (congrArg (fun p => p.2.2) (Option.some.inj h)).symm (.inr (congrArg (fun p => p.2.1) (Option.some.inj h)).symm)
  | tup ds' => exact ifE h fun c h => k _ _ rfl ((if_pos c).trans (congrArg (fun p => some p.1) (Option.some.inj h))) (congrArg (fun p => p.2.2) (Option.some.inj h)).symm (.inr (congrArg (fun p => p.2.1) (Option.some.inj h)).symm)
  | str x => exact ifE h fun c h => k _ _ rfl ((if_pos c).trans (congrArg (fun p => some p.1) (Option.some.inj h))) (congrArg (fun p => p.2.2) (Option.some.inj h)).symm (.inl rfl)
  | _ => exact optE h
@[elab_as_elim] theorem itemsE {m : D → List D → Prop} {d : D} {ds : List D} (h : itemsD d = some ds) (k1 : ∀ ds : List D, ds.length ≤ listLine → m (.lst ds) ds) (k2 : ∀ ds : List D, ds.length ≤ listLine → m (.tup ds) ds)
    (k3 : ∀ x : Str, x.length ≤ strLine → m (.str x) (x.cps.toList.map fun c => .str ⟨#[c]⟩)) : m d ds := by
  cases d with
  | lst ds' => exact ifE h fun c h => someE h (k1 _ c)
  | tup ds' => exact ifE h fun c h => someE h (k2 _ c)
  | str x => exact ifE h fun c h => someE h (k3 _ c)
  | _ => exact optE h
@[elab_as_elim] theorem rangeE {g : Bool} {vs : List V} {m : List V → List D → Bool → Bool → Prop} {ds : List D} {t en : Bool} (h : rangeOf g vs = some (ds, t, en)) (k1 : ∀ a ta, g = true → a.natAbs < 1000 → m [(.int a, ta)] (rangeD 0 a) false false)
    (k2 : ∀ a ta b tb, g = true → a.natAbs < 1000 ∧ b.natAbs < 1000 → m [(.int a, ta), (.int b, tb)] (rangeD a b) false false)
    (k3 : ∀ a ta b tb tc, g = true → a.natAbs < 1000 → b.natAbs < 1000 → b ≤ a → m [(.int a, ta), (.int b, tb), (.int (-1), tc)] ((rangeD b a).map (downD a b)) false false) : m vs ds t en := by
  have e3 : ∀ {vs : List V} {x : List D}, (some (x, false, false) : Option (List D × Bool × Bool)) = some (ds, t, en) → m vs x false false → m vs ds t en := fun h k => by cases h; exact k
  cases vs with
  | nil => exact optE h
  | cons v vs =>
  cases v with | mk a ta =>
  cases a with
  | int a =>
    cases vs with
    | nil => exact ifE h fun c h => e3 h (k1 _ _ ((Bool.and_eq_true _ _).mp c).1 (of_decide_eq_true ((Bool.and_eq_true _ _).mp c).2))
    | cons v vs =>
    cases v with | mk b tb =>
    cases b with
    | int b =>
      cases vs with
      | nil => exact ifE h fun c h => e3 h (k2 _ _ _ _ ((Bool.and_eq_true _ _).mp c).1 (of_decide_eq_true ((Bool.and_eq_true _ _).mp c).2))
      | cons v vs =>
      cases v with | mk i ti =>
      cases i with
      | int i =>
        cases vs with
        | nil => exact ifE h fun c h => e3 h (by
            obtain ⟨c1, c2, rfl, c4⟩ := of_decide_eq_true ((Bool.and_eq_true _ _).mp c).2
            exact k3 _ _ _ _ _ ((Bool.and_eq_true _ _).mp c).1 c1 c2 c4)
        | cons _ _ => exact optE h
      | _ => exact optE h
    | _ => exact optE h
  | _ => exact optE h
@[elab_as_elim] theorem enumE {g : Bool} {vs : List V} {m : List V → List D → Bool → Bool → Prop} {ds : List D} {t en : Bool} (h : enumOf g vs = some (ds, t, en)) (k : ∀ ds t, g = true → m [(.lst ds, t)] (enumD 0 ds) t true) : m vs ds t en := by
  cases vs with
  | nil => exact optE h
  | cons v vs =>
  cases v with | mk a ta =>
  cases a with
  | lst a =>
    cases vs with
    | nil => exact ifE h fun c h => by cases h; exact k _ _ ((Bool.and_eq_true _ _).mp c).1
    | cons _ _ => exact optE h
  | _ => exact optE h
theorem g0 {G : Prop} {t : Tg} {src : X} {ifs : XS} {rest : GS} {x : List D × Bool × Bool} (h : evG0 nm fn FT n sc (.cons t src ifs rest) tp r = some x) (k : ∀ n', n = n' + 1 + 1 → evSrc nm fn FT (n' + 1) sc src tp r = some x → G) : G := by
  cases n with
  | zero => exact optE h
  | succ n => cases n with
    | zero => exact optE h
    | succ n => exact k n rfl h
@[elab_as_elim] theorem lcomp {e : X} {gs : GS} {sc' : Scope} {p : Pos} (h : ev nm fn FT (n + 1) sc (.lcomp e gs sc' p) tp r = some v)
    (k : compOk sc sc' = true → varsOk nm sc' gs = true → ∀ items tn en vs, evG0 nm fn FT n sc gs tp r = some (items, tn, en) → evG nm fn FT n (rel sc sc') gs items tn en (inner nm sc' r) (fun r' => match ev nm fn FT n (rel sc sc') e false r' with
        | some v => some [v]
        | none => none) = some vs → vs.length ≤ listLine → untaint vs = true → m (.lst (vs.map (·.1)), false)) : m v :=
  ifE h fun c h => bS h fun items tn en h1 h => bL h fun vs h2 h => ifE h fun c2 h => someE h (k ((Bool.and_eq_true _ _).mp c).1 ((Bool.and_eq_true _ _).mp c).2 items tn en vs h1 h2 c2.1 c2.2)
@[elab_as_elim] theorem dcomp {a b : X} {gs : GS} {sc' : Scope} {p : Pos} (h : ev nm fn FT (n + 1) sc (.dcomp a b gs sc' p) tp r = some v)
    (k : compOk sc sc' = true → varsOk nm sc' gs = true → gs.single = true → ∀ items tn en vs kvs, evG0 nm fn FT n sc gs tp r = some (items, tn, en) → evG nm fn FT n (rel sc sc') gs items tn en (inner nm sc' r) (fun r' => match ev nm fn FT n (rel sc sc') a false r', ev nm fn FT n (rel sc sc') b false r' with
          | some (.str x, _), some (d, false) => some [(.tup [.str x, d], false)]
          | _, _ => none) = some vs → vs.length ≤ listLine → kvsOf (vs.map (·.1)) = some kvs → m (.dct (putAll kvs).1 (putAll kvs).2, false)) : m v :=
  ifE h fun c h => bS h fun items tn en h1 h => bL h fun vs h2 h => ifE h fun c2 h => mapE h fun kvs h3 => k (and3 c).1 (and3 c).2.1 (and3 c).2.2 items tn en vs kvs h1 h2 c2 h3
theorem g1 {G : Prop} {t : Tg} {src : X} {ifs : XS} {items : List D} {tn en : Bool} {emit : Rho → Option (List V)} {vs : List V} (h : evG nm fn FT n sc (.cons t src ifs .nil) items tn en r emit = some vs)
    (k : ∀ n', n = n' + 1 → t.two? = en → collectM (fun d => match bindTg t (itV d tn) r with
      | some r' => match evIfs nm fn FT n' sc ifs r' with
        | some true => emit r'
        | some false => some []
        | none => none
      | none => none) items = some vs → G) : G := by
  cases n with
  | zero => exact optE h
  | succ n => exact ifE h fun c h => k n rfl (eq_of_beq c) h
end
end I
end Mine
end
section
open PySem PySem.W PyProof.Rows
set_option autoImplicit false
namespace Mine
theorem strsOf_eq : ∀ {ds : List D} {xs : List Str}, strsOf ds = some xs → ds = xs.map .str
  | [], xs, h => someE h rfl
  | d :: r, xs, h => by
    cases d with
    | str x => exact mapE h fun ys h1 => by rw [strsOf_eq h1]; rfl
    | _ => exact optE h
theorem le_line {n : Nat} (h : n ≤ strLine) : n ≤ sizeLine := by rw [sizeLine_eq]; unfold strLine at h; omega
theorem le_line2 {n m : Nat} (h : n + m ≤ listLine) : n + m ≤ sizeLine := by rw [sizeLine_eq]; unfold listLine at h; omega
theorem mulFits {a b : Int} (h : a.natAbs < 2 ^ 4096 ∧ b.natAbs < 2 ^ 4096) : IntMulOk a b := by
  have key : ∀ k : Int, k.natAbs < 2 ^ 4096 → Builtin.Int.intBits k ≤ 4096 := fun k hk => by
    unfold Builtin.Int.intBits
    split
    · exact Nat.zero_le _
    · rename_i h0
      have h0' : k.natAbs ≠ 0 := fun q => h0 (by rw [Int.natAbs_eq_zero.mp q]; rfl)
      have := (Nat.log2_lt h0').mpr hk
      omega
  have h1 := key a h.1
  have h2 := key b h.2
  unfold IntMulOk
  have : Builtin.Int.intTooBig (Builtin.Int.intBits a + Builtin.Int.intBits b) = false := by
    unfold Builtin.Int.intTooBig
    refine decide_eq_false ?_
    have : (8192 : Int) ≤ bitsLine := by decide
    omega
  rw [this]; simp
abbrev BP (prog : Program) (w : World) (W : Addr → Prop) (h : Heap) (d : D) : Value → Heap → Prop := fun v h' => (∀ b o, h.get? b = some o → h'.get? b = some o) ∧ R prog w h' W v d
section
variable {prog : Program} {w : World} {A : Around} {s : Shared} {W : Addr → Prop}
theorem ok_int {t : Sem Value} {i : Int} (x : ∀ Q E, Q (.int i s.toks) { s with toks := s.toks + 1 } → wpAny (model prog w) A t Q E s) : Ok (model prog w) A t s (BP prog w W s.heap (.int i)) :=
  x _ _ ⟨s.heap, _, rfl, fun _ _ e => e, .int _ _⟩
theorem ok_bool {t : Sem Value} {b : Bool} (x : ∀ Q E, Q (.bool b) s → wpAny (model prog w) A t Q E s) : Ok (model prog w) A t s (BP prog w W s.heap (.bool b)) :=
  x _ _ ⟨s.heap, _, rfl, fun _ _ e => e, .bool _⟩
theorem ok_str {t : Sem Value} {y : Str} (x : ∀ Q E, (∀ t' tk, Q (.str y t') { s with toks := tk }) → wpAny (model prog w) A t Q E s) : Ok (model prog w) A t s (BP prog w W s.heap (.str y)) :=
  x _ _ fun _ _ => ⟨s.heap, _, rfl, fun _ _ e => e, .str _ _⟩
theorem ok_push {t : Sem Value} {c : String} {vs : List Value} {d : D} (x : ∀ Q E, Q (.ref s.heap.objs.size) { s with heap := s.heap.push (sq c vs 0) } → wpAny (model prog w) A t Q E s)
    (h : R prog w (s.heap.push (sq c vs 0)) W (.ref s.heap.objs.size) d) : Ok (model prog w) A t s (BP prog w W s.heap d) :=
  x _ _ ⟨_, _, rfl, fun _ _ e => Heap.get?_push_of_some _ e, h⟩
theorem push_none (h : Heap) : h.get? h.objs.size = none := Heap.get?_none_of_le (Nat.le_refl _)
theorem R_push_lst {h : Heap} {vs : List Value} {ds : List D} (hW : ¬ W h.objs.size) (r : RL prog w h W vs ds) : R prog w (h.push (sq "list" vs 0)) W (.ref h.objs.size) (.lst ds) :=
  .lst hW (Heap.get?_push_size _ rfl) (r.mono (fun _ _ _ e => Heap.get?_push_of_some _ e) fun _ q => .inl q)
theorem R_push_tup {h : Heap} {vs : List Value} {ds : List D} (hW : ¬ W h.objs.size) (r : RL prog w h W vs ds) : R prog w (h.push (sq "tuple" vs 0)) W (.ref h.objs.size) (.tup ds) :=
  .tup hW (Heap.get?_push_size _ rfl) (r.mono (fun _ _ _ e => Heap.get?_push_of_some _ e) fun _ q => .inl q)
theorem log_small {k : Nat} (hk : k < 2 ^ 62) : k.log2 < 9000 := by
  rcases Nat.eq_zero_or_pos k with q | q
  · rw [q]; decide
  · exact Nat.lt_of_lt_of_le ((Nat.log2_lt (by omega)).mpr hk) (by omega)
theorem bin_ok {op : BOp} {a b d : D} {u v : Value} {Wa Wb : Addr → Prop} (e : binD op a b = some d) (ru : R prog w s.heap Wa u a) (rv : R prog w s.heap Wb v b)
    (hn : ¬ W s.heap.objs.size) (hl : ∀ xs ys, a = .lst xs → b = .lst ys → (∀ vs, RL prog w s.heap Wa vs xs → RL prog w s.heap W vs xs) ∧ (∀ vs, RL prog w s.heap Wb vs ys → RL prog w s.heap W vs ys)) :
    Ok (model prog w) A (binaryOp op.py u v) s (BP prog w W s.heap d) := by
  revert ru rv hl
  refine binE e (fun a b ru rv _ => ?_) (fun a b c ru rv _ => ?_) (fun a b c ru rv hl => ?_) (fun a b ru rv _ => ?_) (fun a b c ru rv _ => ?_) (fun a n c ru rv _ => ?_) (fun a b c ru rv _ => ?_) (fun a b c ru rv _ => ?_)
  · exact R.intE ru fun t => R.intE rv fun t' => ok_int fun Q E h => PyProof.Rows.add_int h
  · exact R.strE ru fun t => R.strE rv fun t' => ok_str fun Q E h => PyProof.Rows.add_str h (le_line c)
  · obtain ⟨h1, h2⟩ := hl _ _ rfl rfl
    refine R.lstE ru fun a vs n _ hu ra => R.lstE rv fun a vs n _ hv rb => ?_
    exact ok_push (c := "list") (fun Q E h => P.add_list hu hv (by simpa using h) (by rw [List.size_toArray, List.size_toArray, ra.length, rb.length]; exact le_line2 c)) (R_push_lst hn ((h1 _ ra).append (h2 _ rb)))
  · exact R.intE ru fun t => R.intE rv fun t' => ok_int fun Q E h => PyProof.Rows.sub_int h
  · exact R.intE ru fun t => R.intE rv fun t' => ok_int fun Q E h => PyProof.Rows.mul_int h (mulFits c)
  · exact R.strE ru fun t => R.intE rv fun t' => ok_str fun Q E h => SB.mul (mulOk_of 16 100000 c.1 c.2.2 (by omega) (by decide) (by decide)) fun t' k => h t' k
  · exact R.intE ru fun t => R.intE rv fun t' => ok_int fun Q E h => PyProof.Rows.floordiv_int c.1 h (Or.inl (PyProof.noPylong_of_log2 (log_small c.2.2)))
  · exact R.intE ru fun t => R.intE rv fun t' => ok_int fun Q E h => PyProof.Rows.mod_int c h
end
end Mine
end
section
set_option maxRecDepth 100000
open PySem PySem.W PyProof.Rows PySem.Calls
set_option autoImplicit false
namespace Mine
section
variable {prog : Program} {w : World} {A : Around} {s : Shared} {E : Value → Shared → Prop}
theorem tuple2_eq {a b : Addr} {a1 a2 b1 b2 : Value} {n n' : Nat} {Q : Value → Shared → Prop} (ha : s.heap.get? a = some (sq "tuple" [a1, a2] n)) (hb : s.heap.get? b = some (sq "tuple" [b1, b2] n')) (hu : A.units < cLine)
    (h1 : ∀ E Q, Q true s → wpAny (model prog w) A.in1 (eqBool a1 b1) Q E s) (h2 : ∀ E Q, Q true s → wpAny (model prog w) A.in1 (eqBool a2 b2) Q E s) (h : Q (.bool true) s) :
    wpAny (model prog w) A (compareOp .Eq (.ref a) (.ref b)) Q E s := by
  refine wpAny_richCompare_same_room (op := .Eq) ⟨_, ha, rfl⟩ ⟨_, hb, rfl⟩ PySem.F.slot_tuple_eq (wpAny_call_entry PySem.F.slot_tuple_eq ⟨_, ha, rfl⟩ PySem.F.entry_tuple_eq ?_ (PySem.F.args_tuple_eq_2 _ _)) hu
  obtain ⟨hp, g, d, tk, os⟩ := s
  have f2 := AutoSeq1.sub_tuple_tuple
  wp_walk using AutoSeq1.wpAny_loadPart' ha, AutoSeq1.wpAny_loadPart' hb, h1 _ _, h2 _ _
  exact ⟨.bool true, rfl, fun x => (nomatch x), h⟩
theorem eqBool_dict {a b : Addr} {ka kb : List (Str × Value)} {Q : Bool → Shared → Prop} (la : (a == sysModules) = false) (lb : (b == sysModules) = false)
    (da : s.heap.DictOf (PySem.strKind prog w) a ka) (db : s.heap.DictOf (PySem.strKind prog w) b kb) (hu : A.units < cLine) (hl : ka.length = kb.length) (hits : KeqHits A.in1 s kb ka true) (h : Q true s) :
    wpAny (model prog w) A (eqBool (.ref a) (.ref b)) Q E s := by
  unfold eqBool
  refine wpAny_holding ?_
  refine wpAny_ite_split (fun _ => ?_) (fun _ => ?_)
  · exact wpAny_bind (wpAny_rule (wpAny_pure h))
  · refine wpAny_bind (keq_eq la lb da db hu (fun _ => hits) ?_)
    rw [hl, beq_self_eq_true]
    exact wpAny_truthy_bool h
theorem sameAtom_eq {d d' : D} {u v : Value} {W W' : Addr → Prop} {h h' : Heap} {A : Around} (e : sameAtom d d' = true) (r : R prog w h W u d) (r' : R prog w h' W' v d') : SeqAt.EqAt A s u v true := by
  cases d with
  | int i =>
    cases d' with
    | int j => exact R.intE r fun t => R.intE r' fun t' => e ▸ SeqAt.EqAt.int_int (A := A) (s := s) _ t _ t'
    | _ => exact absurd e Bool.false_ne_true
  | str x =>
    cases d' with
    | str y => exact R.strE r fun t => R.strE r' fun t' => e ▸ SeqAt.EqAt.str_str (A := A) (s := s) _ t _ t'
    | _ => exact absurd e Bool.false_ne_true
  | _ => exact absurd e Bool.false_ne_true
theorem lookD_valueAt {h : Heap} {W : Addr → Prop} {x : Str} {d : D} : ∀ {kvs : List (Str × Value)} {ds : List D}, RL prog w h W (kvs.map (·.2)) ds → lookD (kvs.map (·.1)) ds x = some d → ∃ v, valueAt kvs x = some v ∧ R prog w h W v d
  | [], ds, r, e => by cases ds <;> exact optE e
  | (k, v) :: kvs, [], r, e => nomatch r
  | (k, v) :: kvs, d' :: ds, .cons r1 r2, e => by
    replace e : (if k = x then some d' else lookD (kvs.map (·.1)) ds x) = some d := e
    unfold valueAt
    rw [List.find?_cons]
    by_cases q : k = x
    · rw [if_pos q] at e
      exact someE e ⟨v, by rw [decide_eq_true q]; rfl, r1⟩
    · rw [if_neg q] at e
      rw [decide_eq_false q]; exact lookD_valueAt r2 e
theorem subDct_hits {W W' : Addr → Prop} {h h' : Heap} {A : Around} {kb : List (Str × Value)} {ds' : List D} (rb : RL prog w h' W' (kb.map (·.2)) ds') : ∀ {ka : List (Str × Value)} {ds : List D}, RL prog w h W (ka.map (·.2)) ds → subDct (kb.map (·.1)) ds' (ka.map (·.1)) ds = true → KeqHits A s kb ka true
  | [], _, .nil, _ => .nil
  | (k, v) :: ka, d :: ds, .cons r rl, e => by
    obtain ⟨e1, e2⟩ := (Bool.and_eq_true _ _).mp (show ((match lookD (kb.map (·.1)) ds' k with | some d' => sameAtom d d' | none => false) && subDct (kb.map (·.1)) ds' (ka.map (·.1)) ds) = true from e)
    cases hd : lookD (kb.map (·.1)) ds' k with
    | none => rw [hd] at e1; cases e1
    | some d' =>
      rw [hd] at e1
      obtain ⟨y, hy, ry⟩ := lookD_valueAt rb hd
      exact .hit (e := true) (b := true) hy (sameAtom_eq e1 r ry) (subDct_hits rb rl e2)
theorem sameDct_eq {W W' : Addr → Prop} {u v : Value} {ks ks' : List Str} {ds ds' : List D} {Q : Bool → Shared → Prop} (e : sameDct ks ds ks' ds' = true) (ru : R prog w s.heap W u (.dct ks ds)) (rv : R prog w s.heap W' v (.dct ks' ds')) (hu : A.units < cLine)
    (h : Q true s) : wpAny (model prog w) A (eqBool u v) Q E s := by
  refine R.dctE ru fun a kvs n1 la da e1 rl => ?_
  refine R.dctE rv fun a kvs n2 lb db e2 rl' => ?_
  subst e1 e2
  unfold sameDct at e
  rw [Bool.and_eq_true] at e
  have hl := eq_of_beq e.1
  rw [List.length_map, List.length_map] at hl
  exact eqBool_dict la lb da db hu hl (subDct_hits rl' rl e.2) h
theorem twoDct_eq {d : D} {p : (List Str × List D) × List Str × List D} (e : twoDct d = some p) : d = .tup [.dct p.1.1 p.1.2, .dct p.2.1 p.2.2] := by
  cases d with
  | tup ts =>
    cases ts with
    | nil => exact optE e
    | cons a r =>
    cases a with
    | dct k1 d1 =>
      cases r with
      | nil => exact optE e
      | cons a r =>
      cases a with
      | dct k2 d2 =>
        cases r with
        | nil => exact someE e rfl
        | cons _ _ => exact optE e
      | _ => exact optE e
    | _ => exact optE e
  | _ => exact optE e
theorem samePair_eq {W W' : Addr → Prop} {u v : Value} {d d' : D} {Q : Value → Shared → Prop} (e : samePair d d' = true) (ru : R prog w s.heap W u d) (rv : R prog w s.heap W' v d') (hu : A.units + 8 < cLine)
    (h : Q (.bool true) s) : wpAny (model prog w) A (compareOp .Eq u v) Q E s := by
  unfold samePair at e
  cases h1 : twoDct d with
  | none => rw [h1] at e; cases e
  | some p =>
  cases h2 : twoDct d' with
  | none => rw [h1, h2] at e; cases e
  | some q =>
  rw [h1, h2] at e
  rw [twoDct_eq h1] at ru
  rw [twoDct_eq h2] at rv
  have e := (Bool.and_eq_true _ _).mp e
  refine R.tupE ru fun a vs n _ ha rl => R.tupE rv fun a vs n _ hb rl' => ?_
  revert ha hb
  refine RL.twoE rl fun v1 v2 r1 r2 => RL.twoE rl' fun v1 v2 r1' r2' => fun ha hb => ?_
  exact tuple2_eq ha hb (by omega) (fun E Q h => sameDct_eq e.1 r1 r1' (by show A.units + 1 < cLine; omega) h) (fun E Q h => sameDct_eq e.2 r2 r2' (by show A.units + 1 < cLine; omega) h) h
end
end Mine
end
section
open PySem PySem.W PyProof.Rows
set_option autoImplicit false
namespace Mine
section
variable {prog : Program} {w : World} {A : Around} {s : Shared} {W : Addr → Prop}
theorem lookD_isSome : ∀ (kvs : List (Str × Value)) (ks : List Str), ks = kvs.map (·.1) → ∀ x, (ks.contains x) = (valueAt kvs x).isSome := by
  intro kvs ks e x; subst e
  unfold valueAt
  induction kvs with
  | nil => rfl
  | cons p r ih =>
    simp only [List.map_cons, List.contains_cons, List.find?_cons]
    by_cases q : p.1 = x
    · subst q; simp
    · have q1 : (x == p.1) = false := beq_eq_false_iff_ne.mpr (Ne.symm q)
      rw [q1, Bool.false_or, ih]
      simp only [q, decide_false]
theorem in_ok {a b : D} {r : Bool} {u v : Value} {Wa Wb : Addr → Prop} (e : inD a b = some r) (ru : R prog w s.heap Wa u a) (rv : R prog w s.heap Wb v b) (hu : A.units + 8 < cLine) :
    Ok (model prog w) A (compareOp .In u v) s (BP prog w W s.heap (.bool r)) ∧ Ok (model prog w) A (compareOp .NotIn u v) s (BP prog w W s.heap (.bool !r)) := by
  revert ru rv
  refine inE e (fun x y ru rv => ?_) (fun x ds ys h1 ru rv => ?_) (fun x ks ds ru rv => ?_)
  · exact R.strE ru fun t => R.strE rv fun t' => ⟨ok_bool fun Q E h => P.in_str h, ok_bool fun Q E h => P.notIn_str h⟩
  · rw [strsOf_eq h1] at rv
    exact R.strE ru fun t => R.lstE rv fun a vs n _ hv rb => ⟨ok_bool fun Q E h => in_list_strs (isList_of_sq hv) rb.strs h, ok_bool fun Q E h => notin_list_strs (isList_of_sq hv) rb.strs h⟩
  · refine R.strE ru fun t => R.dctE rv fun a kvs _ lo hd he rb => ?_
    rw [lookD_isSome kvs _ he]
    exact ⟨wpAny_in_of (knd := strKind prog w) (strKind_is prog w _ _) lo hd.mapOf ⟨s.heap, _, rfl, fun _ _ e => e, .bool _⟩,
      wpAny_notIn_of (knd := strKind prog w) (strKind_is prog w _ _) lo hd.mapOf ⟨s.heap, _, rfl, fun _ _ e => e, .bool _⟩⟩
theorem list_empty {h : Heap} {W : Addr → Prop} {v : Value} (r : R prog w h W v (.lst [])) : ∃ b n, v = .ref b ∧ h.get? b = some (sq "list" [] n) := by
  refine R.lstE r fun a vs n hw hv rb => ?_
  revert hv
  exact RL.nilE rb fun hv => ⟨_, _, rfl, hv⟩
theorem range_all_strs : ∀ (xs ys : List Str), xs.length = ys.length → (List.range xs.length).all (fun j => xs[j]? == ys[j]?) = decide (xs = ys) := by
  intro xs ys hl
  rw [Bool.eq_iff_iff, List.all_eq_true, decide_eq_true_iff]
  constructor
  · intro h
    apply List.ext_getElem? ; intro i
    by_cases hi : i < xs.length
    · exact eq_of_beq (h i (List.mem_range.mpr hi))
    · rw [List.getElem?_eq_none (Nat.le_of_not_lt hi), List.getElem?_eq_none (by omega)]
  · intro h j _; rw [h]; exact beq_self_eq_true _
theorem all_strs {vs us : List Value} {xs ys : List Str} (hv : StrsAre vs xs) (hu : StrsAre us ys) (hl : xs.length = ys.length) :
    ∃ e : Nat → Bool, (∀ (A : Around) (s : Shared) j (h1 : j < vs.toArray.size) (h2 : j < us.toArray.size), SeqAt.EqAt A s vs.toArray[j] us.toArray[j] (e j)) ∧ (List.range vs.toArray.size).all e = decide (xs = ys) := by
  refine ⟨fun j => xs[j]? == ys[j]?, fun A s j h1 h2 => ?_, ?_⟩
  · have h1' : j < vs.length := by simpa using h1
    have h2' : j < us.length := by simpa using h2
    obtain ⟨x, t, e1, g1⟩ := hv.item j _ (List.getElem?_eq_getElem h1')
    obtain ⟨y, t', e2, g2⟩ := hu.item j _ (List.getElem?_eq_getElem h2')
    have q1 : vs.toArray[j] = .str x t := by simpa using e1
    have q2 : us.toArray[j] = .str y t' := by simpa using e2
    rw [q1, q2]
    show SeqAt.EqAt A s _ _ (xs[j]? == ys[j]?)
    rw [g1, g2]
    exact SeqAt.EqAt.str_str _ _ _ _
  · have : vs.toArray.size = xs.length := by simpa using hv.length
    rw [this]; exact range_all_strs xs ys hl
theorem ne_strs {A : Around} {s : Shared} {a b : Addr} {vs us : List Value} {n n' : Nat} {xs ys : List Str} {Q : Value → Shared → Prop} {E : Value → Shared → Prop} (hv : s.heap.get? a = some (sq "list" vs n)) (hv' : s.heap.get? b = some (sq "list" us n'))
    (ra : StrsAre vs xs) (rb : StrsAre us ys) (hu : A.units + 8 < cLine) (hx : xs.length ≤ 1000) (h : Q (.bool !decide (xs = ys)) s) : wpAny (model prog w) A (compareOp .NotEq (.ref a) (.ref b)) Q E s := by
  have l1 := ra.length
  have l2 := rb.length
  by_cases hl : xs.length = ys.length
  · obtain ⟨e, he, hq⟩ := all_strs ra rb hl
    rw [← hq] at h
    exact SeqAt.RcNeAt.lists (isList_of_sq hv) (isList_of_sq hv') (by rw [List.size_toArray, List.size_toArray, l1, l2, hl]) (by omega) (fun j h1 h2 => he _ _ j h1 h2) _ _ _ _ h
  · rw [decide_eq_false fun q => hl (by rw [q])] at h
    exact SeqAt.RcNeAt.lists_lengths (isList_of_sq hv) (isList_of_sq hv') (by rw [List.size_toArray, List.size_toArray, l1, l2]; exact bne_iff_ne.mpr hl) (by omega) _ _ _ _ h
theorem eqStrs_eq {a b : List D} {q : Bool} (e : eqStrs a b = some q) : ∃ xs ys : List Str, a = xs.map .str ∧ b = ys.map .str ∧ xs.length ≤ 1000 ∧ q = decide (xs = ys) := by
  unfold eqStrs at e
  cases hx : strsOf a with
  | none => rw [hx] at e; cases e
  | some xs =>
  cases hy : strsOf b with
  | none => rw [hx, hy] at e; cases e
  | some ys =>
  rw [hx, hy] at e
  exact ifE e fun c e => someE e ⟨xs, ys, strsOf_eq hx, strsOf_eq hy, c, rfl⟩
theorem cmp_ok {op : COp} {a b : D} {r : Bool} {u v : Value} {Wa Wb : Addr → Prop} (e : cmpD op a b = some r) (ru : R prog w s.heap Wa u a) (rv : R prog w s.heap Wb v b) (hu : A.units + 8 < cLine) :
    Ok (model prog w) A (compareOp op.py u v) s (BP prog w W s.heap (.bool r)) := by
  revert ru rv
  refine cmpE e (fun a b ru rv => ?_) (fun a b ru rv => ?_) (fun a b ru rv => ?_) (fun a b ru rv => ?_) (fun a ru rv => ?_) (fun a ru rv => ?_)
    (fun a b q h1 ru rv => ?_) (fun a b r e ru rv => (in_ok e ru rv hu).1) (fun a b hs ru rv => ok_bool fun Q E h => samePair_eq hs ru rv hu h)
  · exact R.intE ru fun t => R.intE rv fun t' => ok_bool fun Q E h => PyProof.Rows.eq_int h
  · exact R.intE ru fun t => R.intE rv fun t' => ok_bool fun Q E h => PyProof.Rows.ne_int h
  · exact R.strE ru fun t => R.strE rv fun t' => ok_bool fun Q E h => PyProof.Rows.eq_str h
  · exact R.strE ru fun t => R.strE rv fun t' => ok_bool fun Q E h => PyProof.Rows.ne_str h
  · obtain ⟨b, n, rfl, hb⟩ := list_empty rv
    refine R.lstE ru fun a vs n _ hv ra => ?_
    cases ra with
    | nil => exact ok_bool fun Q E h => SeqAt.eq_listAt (isList_of_sq hv) (isList_of_sq hb) rfl (by omega) (e := fun _ => true) (fun j h1 => absurd h1 (Nat.not_lt_zero _)) h
    | cons _ _ => exact ok_bool fun Q E h => SeqAt.eq_list_lengthsAt (isList_of_sq hv) (isList_of_sq hb) rfl (by omega) h
  · obtain ⟨b, n, rfl, hb⟩ := list_empty rv
    refine R.lstE ru fun a vs n _ hv ra => ?_
    cases ra with
    | nil => exact ok_bool fun Q E h => SeqAt.RcNeAt.lists (isList_of_sq hv) (isList_of_sq hb) rfl (by omega) (e := fun _ => true) (fun j h1 => absurd h1 (Nat.not_lt_zero _)) _ _ _ _ h
    | cons _ _ => exact ok_bool fun Q E h => SeqAt.RcNeAt.lists_lengths (isList_of_sq hv) (isList_of_sq hb) rfl (by omega) _ _ _ _ h
  · obtain ⟨xs, ys, rfl, rfl, hx, rfl⟩ := eqStrs_eq h1
    exact R.lstE ru fun a vs n _ hv ra => R.lstE rv fun b us n' _ hv' rb => ok_bool fun Q E h => ne_strs hv hv' ra.strs rb.strs hu hx h
end
end Mine
end
section
open PySem PySem.W PyProof.Rows
set_option autoImplicit false
namespace Mine
section
variable {prog : Program} {w : World} {A : Around} {s : Shared}
theorem idx_le {i : Int} {n k : Nat} (e : idxOf i n = some k) : k < n ∧ ((0 ≤ i ∧ k = i.toNat) ∨ (i < 0 ∧ -(n : Int) ≤ i ∧ k = (i + n).toNat)) := by
  unfold idxOf at e
  by_cases h : 0 ≤ i
  · rw [if_pos h] at e
    exact ifE e fun c e => someE e ⟨by omega, .inl ⟨h, rfl⟩⟩
  · rw [if_neg h] at e
    exact ifE e fun c e => someE e ⟨by omega, .inr ⟨Int.not_le.mp h, by omega, rfl⟩⟩
theorem seqIdx {i : Int} {n k : Nat} (e : idxOf i n = some k) : seqIndex? i n = some k := by
  obtain ⟨h1, h2⟩ := idx_le e
  unfold seqIndex?
  rcases h2 with ⟨h, rfl⟩ | ⟨h, h', rfl⟩
  · have e1 : ¬ i < 0 := by omega
    simp only [e1, if_false]
    first
    | (rw [if_pos (by omega)]; done)
    | (rw [if_neg (by omega)]; done)
    | (simp; omega)
  · simp only [h, if_true]
    first
    | (rw [if_pos (by omega)]; done)
    | (rw [if_neg (by omega)]; done)
    | (simp; omega)
theorem lookD_none {h : Heap} {W : Addr → Prop} {x : Str} : ∀ {kvs : List (Str × Value)} {ds : List D}, RL prog w h W (kvs.map (·.2)) ds → lookD (kvs.map (·.1)) ds x = none → valueAt kvs x = none
  | [], ds, r, e => rfl
  | (k, v) :: kvs, [], r, e => nomatch r
  | (k, v) :: kvs, d' :: ds, .cons r1 r2, e => by
    replace e : (if k = x then some d' else lookD (kvs.map (·.1)) ds x) = none := e
    unfold valueAt
    rw [List.find?_cons]
    by_cases q : k = x
    · rw [if_pos q] at e; cases e
    · rw [if_neg q] at e
      rw [decide_eq_false q]; exact lookD_none r2 e
theorem getItem_ok {a b d : D} {u v : Value} {Wa Wb : Addr → Prop} (e : itemD a b = some d) (ru : R prog w s.heap Wa u a) (rv : R prog w s.heap Wb v b) :
    ∃ (T id : String), s.TypeIs u T ∧ typeLookup (.type T) "__getitem__" = pure (some (.builtin id)) ∧ Ok (model prog w) A (getItem u v) s (BP prog w Wa s.heap d) := by
  revert ru rv
  refine itemE e (fun ds i k hk hsz e ru rv => ?_) (fun ds i k hk hsz e ru rv => ?_) (fun ks ds x e ru rv => ?_)
  · have hz : ds.length ≤ 100000 := hsz
    refine R.intE rv fun t => R.lstE ru fun a vs n _ hv rb => ?_
    obtain ⟨x, hx, rx⟩ := rb.get e
    have hl := rb.length
    have hl' : vs.toArray.size = ds.length := (List.size_toArray).trans hl
    have hx' : ∀ k, vs[k]? = some x → vs.toArray[k]? = some x := fun k h => (List.getElem?_toArray ..).trans h
    refine ⟨"list", _, (isList_of_sq hv).typeIs, slot_list_getitem.lookup, ?_⟩
    rcases idx_le hk with ⟨h1, ⟨h0, rfl⟩ | ⟨h0, h3, rfl⟩⟩
    · exact wpAny_getItem_list (isList_of_sq hv) h0 (by omega) (hx' _ hx) ⟨s.heap, _, rfl, fun _ _ e => e, rx⟩
    · exact wpAny_getItem_list_neg (isList_of_sq hv) h0 (by omega) (by omega) (by rw [hl']; exact hx' _ hx) ⟨s.heap, _, rfl, fun _ _ e => e, rx⟩
  · have hz : ds.length ≤ 100000 := hsz
    refine R.intE rv fun t => R.tupE ru fun a vs n _ hv rb => ?_
    obtain ⟨x, hx, rx⟩ := rb.get e
    have hl := rb.length
    refine ⟨"tuple", _, (isTup_of_sq hv).typeIs, slot_tuple_getitem.lookup, ?_⟩
    have hb := idx_le hk
    exact PyProof.Rows.getItem_tuple (isTup_of_sq hv) (by omega) (by omega) (by rw [List.size_toArray, hl]; exact seqIdx hk) (by simpa using hx) ⟨s.heap, _, rfl, fun _ _ e => e, rx⟩
  · refine R.strE rv fun t => R.dctE ru fun a kvs _ lo hd he rb => ?_
    rw [he] at e
    obtain ⟨x, hx, rx⟩ := lookD_valueAt rb e
    exact ⟨"dict", _, hd.mapOf.typeIs, slot_dict_getitem.lookup, wpAny_getItem_of (strKind_is prog w _ _) hd.mapOf hx ⟨s.heap, _, rfl, fun _ _ e => e, rx⟩⟩
inductive PartR : Value → Option D → Prop
  | none : PartR .none none
  | int (i : Int) (t : Tok) : PartR (.int i t) (some (.int i))
theorem PartR.of {h : Heap} {W : Addr → Prop} {u : Value} {i : Int} (r : R prog w h W u (.int i)) : PartR u (some (.int i)) := R.intE r fun t => .int _ _
theorem part_raw {v : Value} {o : Option D} (r : PartR v o) {p : Option Int} (e : partO o = some p) : IsPart v p ∧ ∃ q : Option (Int × Tok), v = partValue q ∧ q.map (·.1) = p := by
  cases r with
  | none => cases e; exact ⟨.none, none, rfl, rfl⟩
  | int i t => cases e; exact ⟨.int _ _, some (i, t), rfl, rfl⟩
theorem cut_lo {n k : Nat} {o : Option D} {v : Value} (r : PartR v o) (e : cutAt n o 0 = some k) : ∃ p, IsPart v p ∧ kms_lo p n = k := by
  cases r with
  | none => cases e; exact ⟨_, .none, rfl⟩
  | int i t =>
    replace e : (if 0 ≤ i then some (min i.toNat n) else none) = some k := e
    refine ifE e fun c e => someE e ⟨_, .int _ _, ?_⟩
    show (if i < 0 then _ else _) = _
    rw [if_neg (Int.not_lt.mpr c)]
theorem cut_hi {n k : Nat} {o : Option D} {v : Value} (r : PartR v o) (e : cutAt n o n = some k) : ∃ p, IsPart v p ∧ kms_hi p n = k := by
  cases r with
  | none => cases e; exact ⟨_, .none, rfl⟩
  | int i t =>
    replace e : (if 0 ≤ i then some (min i.toNat n) else none) = some k := e
    refine ifE e fun c e => someE e ⟨_, .int _ _, ?_⟩
    show (if i < 0 then _ else _) = _
    rw [if_neg (Int.not_lt.mpr c)]
abbrev slObj (l u st : Value) : Obj := { cls := .type "slice", data := .fields #[l, u, st] }
theorem getItem_slice_ok {a d : D} {lo hi : Option D} {u vl vu : Value} {Wa : Addr → Prop} (e : sliceD a lo hi = some d) (ru : R prog w s.heap Wa u a) (pl : PartR vl lo) (pu : PartR vu hi) (hn : ∀ h : Heap, s.heap.objs.size ≤ h.objs.size → ¬ Wa h.objs.size) :
    ∃ (T id : String), (∀ s' : Shared, s'.heap = s.heap.push (slObj vl vu .none) → s'.TypeIs u T) ∧ typeLookup (.type T) "__getitem__" = pure (some (.builtin id)) ∧
      Ok (model prog w) A (getItem u (.ref s.heap.objs.size)) { s with heap := s.heap.push (slObj vl vu .none) } (BP prog w Wa s.heap d) := by
  revert ru
  refine sliceE e (fun ds i j h1 h2 hsz ru => ?_) (fun x i j h1 h2 hsz ru => ?_)
  · obtain ⟨p, hp, e1⟩ := cut_lo pl h1
    obtain ⟨q, hq, e2⟩ := cut_hi pu h2
    refine R.lstE ru fun a vs n _ hv rb => ?_
    have hl := rb.length
    have hL := (isList_of_sq hv).push (slObj vl vu .none)
    refine ⟨"list", _, fun s' hs => (hs ▸ hL : s'.heap.IsList a vs.toArray).typeIs, list_getitem_lookup, ?_⟩
    refine wpAny_getItem_list_slice hL (Heap.IsSliceOf.new ..) hp hq .none (by decide) ?_ (by rw [List.size_toArray, hl, sizeLine_eq]; exact Nat.le_trans hsz (by decide))
    have hz : kms_pick vs.toArray.toList p q = (vs.take j).drop i := by
      show kms_pick vs p q = _
      unfold kms_pick; rw [hl, e1, e2, List.drop_take]
    rw [kms_pick_eq, hz]
    exact ⟨_, _, rfl, fun b o e => Heap.get?_push_of_some _ (Heap.get?_push_of_some _ e), R_push_lst (hn _ (by rw [Heap.size_push]; exact Nat.le_succ _)) (RL.mono (fun _ _ _ e => Heap.get?_push_of_some _ e) (fun _ q => .inl q) ((rb.take j).drop i))⟩
  · obtain ⟨_, q1, rfl, rfl⟩ := part_raw pl h1
    obtain ⟨_, q2, rfl, rfl⟩ := part_raw pu h2
    refine R.strE ru fun t => ⟨"str", _, fun s' _ => typeIs_str _ _ _, F.slot_str_getitem.lookup, ?_⟩
    exact wpAny_getItem_str_slice (l := q1) (u := q2) (st := none) ⟨_, Heap.get?_push_size _ rfl, rfl, rfl⟩ rfl (post_val_or_str ⟨Nat.le_trans (Txt.slice_le x _ _) (le_line hsz), fun t' k => ⟨_, _, rfl, fun b o e => Heap.get?_push_of_some _ e, .str _ _⟩⟩)
theorem getItem_rev_ok {ds : List D} {u st : Value} {Wa : Addr → Prop} (hsz : ds.length ≤ listLine) (ru : R prog w s.heap Wa u (.lst ds)) (ps : IsPart st (some (-1))) (hn : ∀ h : Heap, s.heap.objs.size ≤ h.objs.size → ¬ Wa h.objs.size) :
    ∃ (T id : String), (∀ s' : Shared, s'.heap = s.heap.push (slObj .none .none st) → s'.TypeIs u T) ∧ typeLookup (.type T) "__getitem__" = pure (some (.builtin id)) ∧
      Ok (model prog w) A (getItem u (.ref s.heap.objs.size)) { s with heap := s.heap.push (slObj .none .none st) } (BP prog w Wa s.heap (.lst ds.reverse)) := by
  refine R.lstE ru fun a vs n hw hv rb => ?_
  have hl := rb.length
  refine ⟨"list", _, fun s' hs => ?_, list_getitem_lookup, ?_⟩
  · have := (isList_of_sq hv).push (slObj .none .none st); rw [← hs] at this; exact this.typeIs
  refine wpAny_getItem_list_slice ((isList_of_sq hv).push _) (Heap.IsSliceOf.new ..) .none .none ps (by simp) ?_ (by simp only [List.size_toArray, hl]; rw [sizeLine_eq]; unfold listLine at hsz; omega)
  rw [krv_pick]
  refine ⟨_, _, rfl, fun b o e => Heap.get?_push_of_some _ (Heap.get?_push_of_some _ e), ?_⟩
  exact R_push_lst (hn _ (by rw [Heap.size_push]; omega)) (RL.mono (fun _ _ _ e => Heap.get?_push_of_some _ e) (fun _ q => .inl q) rb.reverse)
end
end Mine
end
section
open PySem PySem.W PyProof.Rows PySem.Calls
set_option autoImplicit false
namespace Mine
noncomputable def leS (a b : Str) : Prop := ltS b a = false
theorem leS_cps {a b : Str} : leS a b ↔ a.cps.toList ≤ b.cps.toList := by
  unfold leS ltS
  rw [decide_eq_false_iff_not]
  exact List.not_lt
theorem leS_antisymm {a b : Str} (h : leS a b) (h' : leS b a) : a = b := by
  have e := List.le_antisymm (leS_cps.mp h) (leS_cps.mp h')
  cases a; cases b
  simp only at e
  congr 1
  exact Array.toList_inj.mp e
theorem leS_total (a b : Str) : leS a b ∨ leS b a := (List.le_total a.cps.toList b.cps.toList).imp leS_cps.mpr leS_cps.mpr
theorem leS_trans {a b c : Str} (h : leS a b) (h' : leS b c) : leS a c := leS_cps.mpr (List.le_trans (leS_cps.mp h) (leS_cps.mp h'))
theorem insS_perm (x : Str) : ∀ r : List Str, (insS x r).Perm (x :: r)
  | [] => .refl _
  | y :: r => by
    unfold insS
    cases ltS y x with
    | true => exact ((insS_perm x r).cons y).trans (.swap x y r)
    | false => exact .refl _
theorem sortS_perm : ∀ r : List Str, (sortS r).Perm r
  | [] => .refl _
  | x :: r => (insS_perm x _).trans ((sortS_perm r).cons x)
theorem insS_sorted (x : Str) : ∀ r : List Str, r.Pairwise leS → (insS x r).Pairwise leS
  | [], _ => by simp [insS]
  | y :: r, h => by
    have h' := List.pairwise_cons.mp h
    unfold insS; split
    · rename_i q
      refine List.pairwise_cons.mpr ⟨fun z hz => ?_, insS_sorted x r h'.2⟩
      rcases List.mem_cons.mp ((insS_perm x r).subset hz) with rfl | hz
      · rcases leS_total y z with l | l
        · exact l
        · unfold leS at l; rw [q] at l; cases l
      · exact h'.1 z hz
    · rename_i q
      have hx : leS x y := by unfold leS; exact Bool.eq_false_iff.mpr q
      refine List.pairwise_cons.mpr ⟨fun z hz => ?_, h⟩
      rcases List.mem_cons.mp hz with rfl | hz
      · exact hx
      · exact leS_trans hx (h'.1 z hz)
theorem sortS_sorted : ∀ r : List Str, (sortS r).Pairwise leS
  | [] => .nil
  | x :: r => insS_sorted x _ (sortS_sorted r)
theorem sorted_unique {a b : List Str} (ha : a.Pairwise leS) (hb : b.Pairwise leS) (h : a.Perm b) : a = b :=
  List.Perm.eq_of_pairwise (fun _ _ _ _ => leS_antisymm) ha hb h
theorem leS_ltCps {a b : Str} : (Spec.ltCps b.cps.toList a.cps.toList) = false ↔ leS a b := by
  unfold leS ltS; rw [ltCps_eq]
theorem risingS_iff : ∀ (r : List Str) (p : Str), risingS p r = true → (p :: r).Pairwise leS
  | [], p, _ => by simp
  | x :: r, p, h => by
    simp only [risingS, Bool.and_eq_true, Bool.not_eq_true'] at h
    have h2 := risingS_iff r x h.2
    have h1 := leS_ltCps.mp h.1
    refine List.pairwise_cons.mpr ⟨fun z hz => ?_, h2⟩
    rcases List.mem_cons.mp hz with rfl | hz
    · exact h1
    · exact leS_trans h1 ((List.pairwise_cons.mp h2).1 z hz)
theorem sortedS_iff : ∀ (r : List Str), sortedS r = true → r.Pairwise leS
  | [], _ => .nil
  | x :: r, h => risingS_iff r x h
section
variable {prog : Program} {w : World} {A : Around} {s : Shared} {W : Addr → Prop}
theorem strs_of_items : ∀ {kvs : List (Str × Value)} {vs : List Value}, vs.length = kvs.length → (∀ (j : Nat) (v : Value), vs[j]? = some v → ∃ k x, kvs[j]? = some (k, x) ∧ (PySem.strKind prog w).is k v = true) → StrsAre vs (kvs.map (·.1))
  | [], [], _, _ => .nil
  | [], _ :: _, h, _ => by simp at h
  | _ :: _, [], h, _ => by simp at h
  | (k, x) :: kvs, v :: vs, h, hv => by
    obtain ⟨k', x', e, hk⟩ := hv 0 v rfl
    simp at e
    obtain ⟨rfl, rfl⟩ := e
    obtain ⟨t, rfl⟩ := Value.isStrOf_shape hk
    exact .cons _ _ (strs_of_items (by simpa using h) fun j v hj => hv (j + 1) v (by simpa using hj))
theorem sorted_dict_ok {a : Addr} {kvs : List (Str × Value)} (lo : (a == sysModules) = false) (hD : s.heap.DictOf (PySem.strKind prog w) a kvs) (hh : A.handled = none) (h64 : kvs.length < 64)
    (hn : ∀ a, s.heap.get? a = none → ¬ W a) :
    Ok (model prog w) A (call (.builtin "sorted") [.ref a]) s (BP prog w W s.heap (.lst ((sortS (kvs.map (·.1))).map .str))) := by
  obtain ⟨ep, hat⟩ := hD.dictAt
  refine Calls.call_function_entry kind_sorted plain_sorted entry_sorted (args_sorted1 _) ?_
  unfold Builtin.«sorted»
  refine wpAny_bind (m := checkCount "sorted" 1 1 _) (wpAny_pure ?_)
  refine wpAny_bind (kdu_collect (A := A.in1) (kdl_dict (knd := PySem.strKind prog w) (kvs := kvs) (ep := ep) lo) hh hat (by rw [sizeLine_eq]; omega) fun h' tk acc hk hacc => ?_)
  have hl : acc.toList.length = kvs.length := by rw [Array.length_toList]; exact hacc.1
  have hS : StrsAre acc.toList (kvs.map (·.1)) := strs_of_items (prog := prog) (w := w) hl fun j v e => hacc.2 j v (by rw [← Array.getElem?_toList]; exact e)
  refine wpAny_bind (wpAny_newList ?_ (by rw [hl, sizeLine_eq]; omega))
  have hoL : (h'.push (seqObj "list" acc.toList.toArray 0)).get? h'.objs.size = some (seqObj "list" acc.toList.toArray 0) := Heap.get?_push_size _ rfl
  refine wpAny_bind (wpAny_holding (wpAny_call_entry slot_list_sort ⟨_, hoL, rfl⟩ entry_list_sort (list_sort_treeK strKind_oneLt hoL hS.keysOf (fun v₁ v₂ rest e => keyKind_strs (by rw [← e]; exact hS)) (by rw [hl]; exact h64) fun st' a1 a2 => ⟨_, rfl, ?_⟩) (args_list_sort _)))
  refine wpAny_pure ⟨_, rfl, ?_⟩
  obtain ⟨ss', h1, h2, h3⟩ := sorted_out_str hS a1 a2
  have e1 : ss' = sortS (kvs.map (·.1)) := sorted_unique (sortedS_iff _ h3) (sortS_sorted _) (h2.trans (sortS_perm _).symm)
  subst e1
  obtain ⟨n', hS'⟩ := sortedHeap_at (vs := acc.toList) (out := ((arrOf st').map (·.2))) (n := 0) hoL
  refine ⟨_, _, rfl, fun b o e => ?_, ?_⟩
  · have hlt := Heap.lt_size (hk _ _ e)
    rw [sortedHeap_old (Nat.ne_of_lt hlt) (by rw [size_push']; exact Nat.lt_succ_of_lt hlt), Heap.get?_push_ne _ _ _ (Nat.ne_of_lt hlt)]
    exact hk _ _ e
  · refine .lst (vs := ((arrOf st').map (·.2)).toList) (n := n') (hn _ ?_) (by rw [hS']) (RL.of_strs h1)
    cases q : s.heap.get? h'.objs.size with
    | none => rfl
    | some o => exact absurd (Heap.lt_size (hk _ _ q)) (Nat.lt_irrefl _)
end
section
variable {prog : Program} {w : World} {A : Around} {s : Shared} {W : Addr → Prop}
noncomputable def Bi.val : Bi → Value
  | .type => .type "type" | .range => .type "range" | .enumerate => .type "enumerate"
  | .len => .builtin "len" | .sorted => .builtin "sorted" | .divmod => .builtin "divmod"
theorem bi_ok {b : Bi} {ds : List D} {d : D} {us : List Value} {W₀ : Addr → Prop} (e : biD b ds = some d) (r : RL prog w s.heap W₀ us ds) (hh : A.handled = none) (hn : ∀ h : Heap, s.heap.objs.size ≤ h.objs.size → ¬ W h.objs.size) (hn2 : ∀ a, s.heap.get? a = none → ¬ W a) :
    Ok (model prog w) A (call b.val us) s (BP prog w W s.heap d) := by
  revert r
  refine biE e (fun ds hsz r => ?_) (fun x hsz r => ?_) (fun ds xs hx hsz r => ?_) (fun ks ds hsz r => ?_) (fun a b hb r => ?_) (fun x r => ?_)
  · refine r.oneE fun v r1 => R.lstE r1 fun a vs n _ hv rb => ?_
    have hl := rb.length
    exact Calls.call_len_list (isList_of_sq hv) (by rw [List.size_toArray, hl]; have : ds.length ≤ 100000 := hsz; omega) ⟨s.heap, _, rfl, fun _ _ e => e, by rw [List.size_toArray, hl]; exact .int _ _⟩
  · exact r.oneE fun v r1 => R.strE r1 fun t => PyProof.Rows.len_str (by have : x.length ≤ 100000 := hsz; omega) ⟨s.heap, _, rfl, fun _ _ e => e, .int _ _⟩
  · rw [strsOf_eq hx] at r
    refine r.oneE fun v r1 => R.lstE r1 fun a vs n _ hv rb => ?_
    refine sorted_strs (isList_of_sq hv) rb.strs (by rw [rb.strs.length]; exact hsz) fun out ss' h1 h2 h3 => ?_
    rw [sorted_unique (sortedS_iff _ h3) (sortS_sorted xs) (h2.trans (sortS_perm xs).symm)] at h1
    obtain ⟨n', hS⟩ := sortedAll_at s.heap vs out
    refine ⟨_, _, rfl, fun _ _ e => sortedAll_old e, .lst (vs := out.toList) (n := n') ?_ (by rw [hS]) (RL.of_strs h1)⟩
    have := hn ((s.heap.push (sq "list" [] 0))) (by rw [Heap.size_push]; exact Nat.le_succ _)
    rwa [Heap.size_push] at this
  · refine r.oneE fun v r1 => R.dctE r1 fun a kvs _ lo hd ek rl => ?_
    rw [ek] at hsz ⊢
    exact sorted_dict_ok lo hd hh (by rwa [List.length_map] at hsz) hn2
  · refine r.twoE fun v v' r1 r2 => R.intE r1 fun t => R.intE r2 fun t' => ?_
    exact divmod_int hb.1 ⟨_, _, rfl, fun _ _ e => Heap.get?_push_of_some _ e, R_push_tup (vs := [_, _]) (hn _ (Nat.le_refl _)) (.cons (.int _ _) (.cons (.int _ _) .nil))⟩ (Or.inl (PyProof.noPylong_of_log2 (log_small hb.2.2)))
  · exact r.oneE fun v r1 => R.strE r1 fun t => PySem.call_type_of (typeIs_str _ _ _) rfl ⟨s.heap, _, rfl, fun _ _ e => e, .ty _⟩
end
end Mine
end
section
open PySem PySem.W PyProof.Rows
set_option autoImplicit false
namespace Mine
section
variable {prog : Program} {w : World} {A : Around} {s : Shared} {W : Addr → Prop}
noncomputable def Me.at : Me → String × String
  | .rfind => ("str", "str.rfind") | .startswith => ("str", "str.startswith") | .endswith => ("str", "str.endswith") | .rstrip => ("str", "str.rstrip")
  | .split => ("str", "str.split") | .join => ("str", "str.join") | .get => ("dict", "dict.get") | .index => ("list", "list.index")
theorem Me.plain (m : Me) : PlainAttrs m.at.1 := by
  cases m
  all_goals first | exact F.plainAttrs_str | exact F.plainAttrs_dict | exact F.plainAttrs_list
theorem Me.slot (m : Me) : Slot m.at.1 m.py m.at.2 := by
  cases m
  · exact F.slot_str_rfind
  · exact F.slot_str_startswith
  · exact F.slot_str_endswith
  · exact F.slot_str_rstrip
  · exact F.slot_str_split
  · exact F.slot_str_join
  · exact F.slot_dict_get
  · exact F.slot_list_index
theorem Me.ty (m : Me) : typeOf (.builtin m.at.2) = pure (.type "method_descriptor") := by
  cases m
  · exact F.type_str_rfind
  · exact F.type_str_startswith
  · exact F.type_str_endswith
  · exact F.type_str_rstrip
  · exact F.type_str_split
  · exact F.type_str_join
  · exact F.type_dict_get
  · exact F.type_list_index
theorem self_str {u : Value} {x : Str} {Wa : Addr → Prop} (r : R prog w s.heap Wa u (.str x)) : s.TypeIs u "str" ∧ (∀ a, u = .ref a → ∃ ob, s.heap.get? a = some ob ∧ ob.dict = none) :=
  R.strE r fun _ => ⟨typeIs_str _ _ _, fun _ q => nomatch q⟩
theorem me_self {m : Me} {o d : D} {ds : List D} {u : Value} {Wa : Addr → Prop} (e : meD m o ds = some d) (ru : R prog w s.heap Wa u o) :
    s.TypeIs u m.at.1 ∧ (∀ a, u = .ref a → ∃ ob, s.heap.get? a = some ob ∧ ob.dict = none) := by
  revert ru
  exact meE e (fun _ _ => self_str) (fun _ _ => self_str) (fun _ _ => self_str) (fun _ _ _ => self_str) (fun _ _ _ => self_str) (fun _ _ _ _ _ => self_str)
    (fun _ _ _ _ ru => R.dctE ru fun _ _ _ _ hd _ _ => ⟨hd.mapOf.typeIs, hd.mapOf.noDict⟩) (fun _ _ _ _ _ ru => R.lstE ru fun _ _ _ _ hv _ => ⟨(isList_of_sq hv).typeIs, fun a q => by cases q; exact ⟨_, hv, rfl⟩⟩)
theorem split_ok {x y : Str} {t u : Tok} (hsz : x.length ≤ strLine ∧ y.length ≠ 0) (hn : ¬ W s.heap.objs.size) : Ok (model prog w) A (call (.builtin "str.split") [.str x t, .str y u]) s (BP prog w W s.heap (.lst ((Txt.split x y).map .str))) := by
  have hy : (y.length == 0) = false := beq_eq_false_iff_ne.mpr hsz.2
  have hl1 : x.length + 2 ≤ sizeLine := by rw [sizeLine_eq]; exact Nat.le_trans (Nat.add_le_add_right hsz.1 2) (by decide)
  have hn' : (Builtin.Str.partsBetween x (Builtin.Str.occurrences x y 0 x.length (x.length + 1)) y.length).length ≤ sizeLine := by
    rw [length_partsBetween]; exact Nat.le_trans (Nat.succ_le_succ (StrLaws.occ_length_le x y 0 x.length (x.length + 1))) hl1
  have fin : ∀ (l : List (Str × Tok)) (k : Nat), l.map (·.1) = Txt.split x y → ∃ h' tk, ({ s with heap := s.heap.push { cls := .type "list", data := .seq (strValues l).toArray }, toks := k } : Shared) = (up s h' tk) ∧
      BP prog w W s.heap (.lst ((Txt.split x y).map .str)) (.ref s.heap.objs.size) h' := fun l k q =>
    ⟨_, _, rfl, fun _ _ e => Heap.get?_push_of_some _ e, q ▸ R_push_lst hn (RL.of_strs (strsAre_of_values l))⟩
  cases h1 : (decide (x.length < y.length) || decide (Builtin.Str.strKind x < Builtin.Str.strKind y))
  · cases hf : (Builtin.Str.occurrences x y 0 x.length (x.length + 1)).isEmpty
    · refine call_meets F.slot_str_split (typeIs_str _ _ _) F.entry_str_split (F.args_str_split_2 _ _) (meets_str_split_sep x y t u h1 hy hf (by omega) hn') ?_
      rw [strsFrom_eq]
      exact fin (numbered s.toks _) _ ((numbered_texts _ _).trans ((if_neg (ne_true_of_eq_false h1)).trans (if_neg (ne_true_of_eq_false hf))).symm)
    · exact call_meets F.slot_str_split (typeIs_str _ _ _) F.entry_str_split (F.args_str_split_2 _ _) (meets_str_split_not_found x y t u h1 hy hf)
        (fin [(x, t)] s.toks ((if_neg (ne_true_of_eq_false h1)).trans (if_pos hf)).symm)
  · exact call_meets F.slot_str_split (typeIs_str _ _ _) F.entry_str_split (F.args_str_split_2 _ _) (meets_str_split_cannot_occur x y t u h1)
      (fin [(x, t)] s.toks (if_pos h1).symm)
theorem index_ok {a : Addr} {vs : List Value} {n : Nat} {ys : List Str} {x : Str} {t : Tok} (hv : s.heap.get? a = some (sq "list" vs n)) (hi : StrsAre vs ys) (hsz : ys.length ≤ 1000 ∧ x ∈ ys) :
    Ok (model prog w) A (call (.builtin "list.index") [.ref a, .str x t]) s (BP prog w W s.heap (.int (ys.idxOf x))) := by
  have hlen := hi.length
  have hj : ys.idxOf x < ys.length := List.idxOf_lt_length_iff.mpr hsz.2
  refine call_meets PySem.F.slot_list_index ⟨_, hv, rfl⟩ PySem.F.entry_list_index (PySem.F.args_list_index_2 _ _)
    (SeqAt.list_indexAt a vs.toArray n none #[] (.str x t) (isStrOf x) (ys.idxOf x) (by simpa [hlen] using hj) (by omega) ?_ ?_) ⟨hv, fun y hy => (eq_isStrOf x t hi y (by simpa using hy)).at _ _, ?_⟩
  · obtain ⟨y, t', e1, e2⟩ := hi.item (ys.idxOf x) _ (List.getElem?_eq_getElem (by omega))
    have e3 : y = x := by rw [List.getElem?_eq_getElem hj, List.getElem_idxOf hj] at e2; cases e2; rfl
    show isStrOf x vs[ys.idxOf x] = true
    rw [e1, e3]; simp [isStrOf]
  · intro j hjs hlt
    obtain ⟨y, t', e1, e2⟩ := hi.item j _ (List.getElem?_eq_getElem (by simpa using hjs))
    have hj' : j < ys.length := by omega
    have e3 : y = ys[j] := by rw [List.getElem?_eq_getElem hj'] at e2; cases e2; rfl
    show isStrOf x vs[j] = false
    rw [e1, e3]
    have := List.not_of_lt_findIdx (p := (· == x)) (xs := ys) (i := j) hlt
    simpa [isStrOf] using this
  · exact ⟨s.heap, _, rfl, fun _ _ e => e, .int _ _⟩
theorem me_ok {m : Me} {o d : D} {ds : List D} {u : Value} {us : List Value} (e : meD m o ds = some d) (ru : R prog w s.heap W u o) (r : RL prog w s.heap W us ds) (hn : ∀ h : Heap, s.heap.objs.size ≤ h.objs.size → ¬ W h.objs.size) :
    Ok (model prog w) A (call (.builtin m.at.2) (u :: us)) s (BP prog w W s.heap d) := by
  revert ru r
  refine meE e (fun x y ru r => ?_) (fun x y ru r => ?_) (fun x y ru r => ?_) (fun x y hsz ru r => ?_) (fun x y hsz ru r => ?_) (fun x ds ys hx hsz ru r => ?_) (fun ks ds x dflt ru r => ?_) (fun ds x ys hx hsz ru r => ?_)
  · exact R.strE ru fun t => r.oneE fun v r1 => R.strE r1 fun t' => SC.rfind ⟨s.heap, _, rfl, fun _ _ e => e, .int _ _⟩
  · exact R.strE ru fun t => r.oneE fun v r1 => R.strE r1 fun t' => SC.startswith ⟨s.heap, _, rfl, fun _ _ e => e, .bool _⟩
  · exact R.strE ru fun t => r.oneE fun v r1 => R.strE r1 fun t' => SC.endswith ⟨s.heap, _, rfl, fun _ _ e => e, .bool _⟩
  · exact R.strE ru fun t => r.oneE fun v r1 => R.strE r1 fun t' => SC.rstripChars (fun t' k => ⟨s.heap, _, rfl, fun _ _ e => e, .str _ _⟩) (le_line hsz)
  · exact R.strE ru fun t => r.oneE fun v r1 => R.strE r1 fun t' => split_ok hsz (hn _ (Nat.le_refl _))
  · rw [strsOf_eq hx] at r
    exact R.strE ru fun t => r.oneE fun v r1 => R.lstE r1 fun a vs n _ hv rb => join_listW (isList_of_sq hv) rb.strs hsz.1 (by have := hsz.2; unfold strLine sumLen at this; omega) fun t' k => ⟨s.heap, _, rfl, fun _ _ e => e, .str _ _⟩
  · refine r.twoE fun v v2 r1 r2 => R.strE r1 fun t => R.dctE ru fun a kvs _ lo hd he rb => ?_
    refine call_meetsIn F.slot_dict_get hd.mapOf.typeIs F.entry_dict_get (F.args_dict_get_3 _ _ _) (meets_dict_get_default (strKind prog w) a (strKind_is prog w _ _) lo v2) ⟨_, hd.mapOf, s.heap, _, rfl, fun _ _ e => e, ?_⟩
    rw [he]
    cases hk : lookD (kvs.map (·.1)) ds x with
    | none => rw [lookD_none rb hk]; exact r2
    | some d => obtain ⟨v, hv, rv⟩ := lookD_valueAt rb hk; rw [hv]; exact rv
  · rw [strsOf_eq hx] at ru
    exact R.lstE ru fun a vs n _ hv rb => r.oneE fun v r1 => R.strE r1 fun t => index_ok hv rb.strs hsz
end
end Mine
end
section
open PySem PySem.W PyProof.Rows
set_option autoImplicit false
namespace Mine
noncomputable def prs (nm fn : Nat → Str) (env : Env) (p : Pos) : XS → XS → List (Sem Value × Sem Value)
  | .cons k ks, .cons v vs => (eval (k.py nm fn) env, do let x ← eval (v.py nm fn) env; standAt p; pure x) :: prs nm fn env p ks vs
  | _, _ => []
theorem prs_shape (nm fn : Nat → Str) (env : Env) (p : Pos) : ∀ ks es : XS, (evalEachOpt (ks.opy nm fn) env).zip ((evalEach (es.py nm fn) env).map fun v => do let x ← v; standAt p; pure x) = (prs nm fn env p ks es).map (fun p => (some p.1, p.2))
  | .nil, _ => rfl
  | .cons _ _, .nil => rfl
  | .cons k ks, .cons v vs => by
    show (some (eval (k.py nm fn) env), _) :: List.zip _ _ = _
    rw [show prs nm fn env p (.cons k ks) (.cons v vs) = (eval (k.py nm fn) env, do let x ← eval (v.py nm fn) env; standAt p; pure x) :: prs nm fn env p ks vs from rfl, List.map_cons, ← prs_shape nm fn env p ks vs]
noncomputable def Con (prog : Program) (w : World) (base : Heap) (fe : FE) (fa : Addr) : Prop :=
  ∀ (A : Around) (fr : List Env) (s : Shared), Cx A fr base s.heap fe.need → 0 ≤ s.toks → ∀ ds d, fe.g ds = some d → ∀ (W : Addr → Prop) us, (∀ a, frA fr a → W a) → (∀ a, W a → ∃ o, s.heap.get? a = some o) →
    RL prog w s.heap W us ds → Ok (model prog w) A (call (.ref fa) us) s (fun v h' => Kp (SS fr (!fe.exact)) s.heap h' ∧ R prog w h' W v d)
noncomputable def Has (base : Heap) (x : Str) (v : Value) : Prop := ∃ mg mb, base.Ns mainGlobals mg ∧ base.Ns builtinsNs mb ∧ mg x = none ∧ mb x = some v
structure Am (prog : Program) (w : World) (nm fn : Nat → Str) (FT : List FE) (base : Heap) (N : Nat) : Prop where
  nmd : ∀ i, (nm i == "__debug__") = false ∧ (nm i == "__classdict__") = false
  inj : ∀ i j, nm i = nm j → i = j
  fnd : ∀ f, (fn f == "__debug__") = false
  hasBi : ∀ b : Bi, Has base b.py b.val
  hasSub : Has base "issubclass" (.builtin "issubclass")
  hasIsi : Has base "isinstance" (.builtin "isinstance")
  hasStr : Has base "str" (.type "str")
  hasBy : Has base "bytes" (.type "bytes")
  fns : ∃ mg, base.Ns mainGlobals mg ∧ ∀ (f : Nat) (fe : FE), FT[f]? = some fe → ∃ fa o fd, mg (fn f) = some (.ref fa) ∧ base.get? fa = some o ∧ o.data = .func fd ∧ fe.need ≤ N ∧ Con prog w base fe fa
section
variable {prog : Program} {w : World} {nm fn : Nat → Str} {FT : List FE} {base : Heap} {N : Nat} {A : Around} {fr : List Env} {env : Env} {sc : Scope} {W : Bool → Addr → Prop} {ρ : Rho} {s : Shared}
variable (prog w nm fn FT base N) in
structure Sound (n : Nat) : Prop where
  ev : ∀ sc e tp ρ v, ev nm fn FT n sc e tp ρ = some v → ∀ A fr env W s, St (prog := prog) (w := w) (nm := nm) A fr base N env sc W ρ s →
    Ok (model prog w) A (eval (e.py nm fn) env) s (EvP prog w fr W tp s.heap v)
  evs : ∀ sc es tp ρ vs, evs nm fn FT n sc es tp ρ = some vs → ∀ A fr env W s p, St (prog := prog) (w := w) (nm := nm) A fr base N env sc W ρ s →
    Ok (model prog w) A (spliced (backTo p (starEach (es.py nm fn) env))) s (EvsP prog w fr W tp s.heap vs)
  evP : ∀ sc ks es tp ρ vs, evP nm fn FT n sc ks es tp ρ = some vs → ∀ A fr env W s p, St (prog := prog) (w := w) (nm := nm) A fr base N env sc W ρ s →
    (prs nm fn env p ks es).length = vs.length ∧ Ok (model prog w) A (evalPairs (prs nm fn env p ks es)) s (fun kvs h' => Kp (SS fr tp) s.heap h' ∧ allStrKeys kvs = true ∧ (strPairs kvs).map (·.1) = vs.map (·.1) ∧ RVs prog w h' W ((strPairs kvs).map (·.2)) (vs.map (·.2)))
  evO : ∀ sc e tp ρ v, evO nm fn FT n sc e tp ρ = some v → ∀ A fr env W s, St (prog := prog) (w := w) (nm := nm) A fr base N env sc W ρ s →
    Ok (model prog w) A (evalPart (e.py nm fn) env) s (fun u h' => Kp (SS fr tp) s.heap h' ∧ PartR u v)
  evT : ∀ sc e tp ρ b, evT nm fn FT n sc e tp ρ = some b → ∀ A fr env W s, St (prog := prog) (w := w) (nm := nm) A fr base N env sc W ρ s →
    Ok (model prog w) A (isTrue (e.py nm fn) env (eval (e.py nm fn) env)) s (fun u h' => Kp (SS fr tp) s.heap h' ∧ u = b)
theorem load_ok {x : Str} {pos : Pos} {v : Value} {P : Value → Heap → Prop} (g : EnvG env) (y : Holds env s.heap x v) (h : P v s.heap)
    (hd : (x == ("__debug__" : Str)) = false ∧ (x == ("__classdict__" : Str)) = false) : Ok (model prog w) A (eval (.Name x pos) env) s P := by
  rcases y with ⟨hk, m, hn, hv⟩ | ⟨hk, c, hc', hv⟩
  · exact wpAny_Name (wpAny_loadName_local g.kind hk hn hv ⟨_, _, rfl, h⟩) hd.1
  · rcases hk with hk | hk
    · exact wpAny_Name (wpAny_loadName_cell g.kind hk hc' hv ⟨_, _, rfl, h⟩) hd.1
    · exact wpAny_Name (wpAny_loadName_free g.kind hk hc' hv ⟨_, _, rfl, h⟩ hd.2) hd.1
theorem kind_isG {x : Str} (g : EOk prog w nm env sc s.heap W ρ) (hx : isG sc x = true) : env.kindOf x = some .globalImplicit := by
  unfold isG at hx; unfold Env.kindOf; rw [g.sc]; exact eq_of_beq hx
theorem load_builtin {x : Str} {pos : Pos} {v : Value} {P : Value → Heap → Prop} (st : St (prog := prog) (w := w) (nm := nm) A fr base N env sc W ρ s) (hx : isG sc x = true)
    {mg mb : Str → Option Value} (hg : base.Ns mainGlobals mg) (hb : base.Ns builtinsNs mb) (hn : mg x = none) (hv : mb x = some v) (h : P v s.heap) (hd : (x == ("__debug__" : Str)) = false) :
    Ok (model prog w) A (eval (.Name x pos) env) s P := by
  refine Calls.Name_function_global st.e.g.kind (kind_isG st.e hx) (Calls.loadGlobal_builtin (mg := mg) (mb := mb) ?_ hn ?_ hv ⟨_, _, rfl, h⟩) hd
  · rw [st.e.g.gl]; exact hg.keeps st.cx.stay
  · rw [st.e.g.bl]; exact hb.keeps st.cx.stay
theorem load_global {x : Str} {pos : Pos} {v : Value} {P : Value → Heap → Prop} (st : St (prog := prog) (w := w) (nm := nm) A fr base N env sc W ρ s) (hx : isG sc x = true)
    {mg : Str → Option Value} (hg : base.Ns mainGlobals mg) (hv : mg x = some v) (h : P v s.heap) (hd : (x == ("__debug__" : Str)) = false) :
    Ok (model prog w) A (eval (.Name x pos) env) s P := by
  refine Calls.Name_function_global st.e.g.kind (kind_isG st.e hx) (Calls.loadGlobal_global (mg := mg) ?_ hv ⟨_, _, rfl, h⟩) hd
  rw [st.e.g.gl]; exact hg.keeps st.cx.stay
theorem Has.ld {x : Str} {v : Value} (hb : Has base x v) {pos : Pos} {Q E : Value → Shared → Prop} (st : St (prog := prog) (w := w) (nm := nm) A fr base N env sc W ρ s) (hx : isG sc x = true) (c : ∀ tk, s.toks ≤ tk → St (prog := prog) (w := w) (nm := nm) A fr base N env sc W ρ (up s s.heap tk) → Q v (up s s.heap tk)) (hd : (x == ("__debug__" : Str)) = false := by rfl) :
    wpAny (model prog w) A (eval (.Name x pos) env) Q E s := by
  obtain ⟨mg, mb, a, b, d, e⟩ := hb
  exact (load_builtin (P := fun u h' => u = v ∧ h' = s.heap) st hx a b d e ⟨rfl, rfl⟩ hd).wpE fun tk hn => c tk hn (st.step (tp := false) hn Kp.refl)
theorem Am.fnE (am : Am prog w nm fn FT base N) {f : Nat} {fe : FE} (hf : FT[f]? = some fe) {pos : Pos} {Q E : Value → Shared → Prop} (st : St (prog := prog) (w := w) (nm := nm) A fr base N env sc W ρ s) (hx : isG sc (fn f) = true)
    (c : ∀ fa o fd tk, s.toks ≤ tk → St (prog := prog) (w := w) (nm := nm) A fr base N env sc W ρ (up s s.heap tk) → base.get? fa = some o → o.data = .func fd → fe.need ≤ N → Con prog w base fe fa → Q (.ref fa) (up s s.heap tk)) : wpAny (model prog w) A (eval (.Name (fn f) pos) env) Q E s := by
  obtain ⟨mg, a, k⟩ := am.fns
  obtain ⟨fa, o, fd, h1, h2, h3, h4, h5⟩ := k f fe hf
  exact (load_global (P := fun u h' => u = .ref fa ∧ h' = s.heap) st hx a h1 ⟨rfl, rfl⟩ (am.fnd f)).wpE fun tk hn => c fa o fd tk hn (st.step (tp := false) hn Kp.refl) h2 h3 h4 h5
theorem star_py (e : X) (rest : List Expr) : starEach (e.py nm fn :: rest) env = (false, eval (e.py nm fn) env) :: starEach rest env := by cases e <;> rfl
theorem beh_py (op : CmpOp) (b : X) : behindInMarks op (b.py nm fn) = false := by cases b <;> rfl
theorem sub_py (b : X) (u v : Value) : subscripted (b.py nm fn) false u v = operate [u, v] (getItem u v) := by cases b <;> rfl
theorem plain_py : ∀ (es : XS) (p : Pos), (backTo p (starEach (es.py nm fn) env)).any (·.1) = false
  | .nil, _ => rfl
  | .cons e r, p => by
    show (backTo p (starEach (e.py nm fn :: r.py nm fn) env)).any (·.1) = false
    rw [star_py]
    show (false || (backTo p (starEach (r.py nm fn) env)).any (·.1)) = false
    rw [plain_py r p]; rfl
theorem R.itV {h : Heap} {v : Value} {d : D} {t : Bool} (r : R prog w h (W t) v d) : R prog w h (W (itV d t).2) v (itV d t).1 := by
  cases hd : d.atom with
  | true => exact r.of_atom hd
  | false =>
    have : Mine.itV d t = (d, t) := by unfold Mine.itV; rw [hd]; simp
    rw [this]; exact r
theorem Sound.k {n : Nat} (ih : Sound prog w nm fn FT base N n) {a : X} {tp : Bool} {v : V} (h1 : Mine.ev nm fn FT n sc a tp ρ = some v) (st : St (prog := prog) (w := w) (nm := nm) A fr base N env sc W ρ s) {Q E : Value → Shared → Prop}
    (c : ∀ u h' tk, s.toks ≤ tk → Kp (SS fr tp) s.heap h' → R prog w h' (W v.2) u v.1 → St (prog := prog) (w := w) (nm := nm) A fr base N env sc W ρ (up s h' tk) → Q u (up s h' tk)) : wpAny (model prog w) A (eval (a.py nm fn) env) Q E s :=
  (ih.ev _ _ _ _ _ h1 A fr env W s st).wp fun u h' tk hn p => c u h' tk hn p.1 p.2 (st.step hn p.1)
theorem Sound.ks {n : Nat} (ih : Sound prog w nm fn FT base N n) {as : XS} {tp : Bool} {vs : List V} (h1 : Mine.evs nm fn FT n sc as tp ρ = some vs) (st : St (prog := prog) (w := w) (nm := nm) A fr base N env sc W ρ s) {p : Pos} {Q : List Value → Shared → Prop} {E : Value → Shared → Prop}
    (c : ∀ us h' tk, s.toks ≤ tk → Kp (SS fr tp) s.heap h' → RVs prog w h' W us vs → St (prog := prog) (w := w) (nm := nm) A fr base N env sc W ρ (up s h' tk) → Q us (up s h' tk)) : wpAny (model prog w) A (spliced (backTo p (starEach (as.py nm fn) env))) Q E s :=
  (ih.evs _ _ _ _ _ h1 A fr env W s p st).wp fun u h' tk hn p => c u h' tk hn p.1 p.2 (st.step hn p.1)
theorem Sound.kO {n : Nat} (ih : Sound prog w nm fn FT base N n) {a : OX} {tp : Bool} {v : Option D} (h1 : Mine.evO nm fn FT n sc a tp ρ = some v) (st : St (prog := prog) (w := w) (nm := nm) A fr base N env sc W ρ s) {Q E : Value → Shared → Prop}
    (c : ∀ u h' tk, s.toks ≤ tk → Kp (SS fr tp) s.heap h' → PartR u v → St (prog := prog) (w := w) (nm := nm) A fr base N env sc W ρ (up s h' tk) → Q u (up s h' tk)) : wpAny (model prog w) A (evalPart (a.py nm fn) env) Q E s :=
  (ih.evO _ _ _ _ _ h1 A fr env W s st).wp fun u h' tk hn p => c u h' tk hn p.1 p.2 (st.step hn p.1)
theorem Sound.kT {n : Nat} (ih : Sound prog w nm fn FT base N n) {a : X} {tp : Bool} {b : Bool} (h1 : Mine.evT nm fn FT n sc a tp ρ = some b) (st : St (prog := prog) (w := w) (nm := nm) A fr base N env sc W ρ s) {Q : Bool → Shared → Prop} {E : Value → Shared → Prop}
    (c : ∀ h' tk, s.toks ≤ tk → Kp (SS fr tp) s.heap h' → St (prog := prog) (w := w) (nm := nm) A fr base N env sc W ρ (up s h' tk) → Q b (up s h' tk)) : wpAny (model prog w) A (isTrue (a.py nm fn) env (eval (a.py nm fn) env)) Q E s :=
  (ih.evT _ _ _ _ _ h1 A fr env W s st).wp fun u h' tk hn p => by rw [p.2]; exact c h' tk hn p.1 (st.step hn p.1)
theorem sound_evs {n : Nat} (ih : Sound prog w nm fn FT base N n) : ∀ sc es tp ρ vs, evs nm fn FT (n + 1) sc es tp ρ = some vs → ∀ A fr env W s p, St (prog := prog) (w := w) (nm := nm) A fr base N env sc W ρ s →
    Ok (model prog w) A (spliced (backTo p (starEach (es.py nm fn) env))) s (EvsP prog w fr W tp s.heap vs) := by
  intro sc es tp ρ vs e A fr env W s p st
  cases es with
  | nil => exact someE e (Calls.spliced_nil (fin ⟨Kp.refl, .nil⟩))
  | cons x r =>
    refine I.cons e fun v vs h1 h2 => ?_
    show Ok _ A (spliced (backTo p (starEach (x.py nm fn :: r.py nm fn) env))) s _
    rw [star_py]
    exact Calls.spliced_cons (ih.k h1 st fun v' h' tk hn k1 r1 st1 => ih.ks h2 st1 fun us h'' tk' hn' k2 r2 _ => fin ⟨k1.trans k2, .cons (k2.R (st.wo.fr' tp v.2) r1) r2⟩)
theorem sound_evP {n : Nat} (ih : Sound prog w nm fn FT base N n) : ∀ sc ks es tp ρ vs, evP nm fn FT (n + 1) sc ks es tp ρ = some vs → ∀ A fr env W s p, St (prog := prog) (w := w) (nm := nm) A fr base N env sc W ρ s →
    (prs nm fn env p ks es).length = vs.length ∧ Ok (model prog w) A (evalPairs (prs nm fn env p ks es)) s (fun kvs h' => Kp (SS fr tp) s.heap h' ∧ allStrKeys kvs = true ∧ (strPairs kvs).map (·.1) = vs.map (·.1) ∧ RVs prog w h' W ((strPairs kvs).map (·.2)) (vs.map (·.2))) := by
  intro sc ks es tp ρ vs e A fr env W s p st
  cases ks with
  | nil => cases es with
    | nil => exact someE e ⟨rfl, Ok.pure ⟨Kp.refl, rfl, rfl, .nil⟩⟩
    | cons => exact optE e
  | cons k ks => cases es with
    | nil => exact optE e
    | cons v es =>
    refine I.pcons e fun x t v' vs' h1 h2 h3 => ⟨congrArg (· + 1) (ih.evP _ _ _ _ _ _ h3 A fr env W s p st).1, ?_⟩
    refine evalPairs_cons (ih.k h1 st fun kv h' tk hn k1 r1 st1 => wpAny_bind (ih.k h2 st1 fun vv h'' tk' hn' k2 r2 st2 => wpAny_bind (wpAny_standAt (wpAny_pure ?_))))
    refine (ih.evP _ _ _ _ _ _ h3 A fr env W _ p st2).2.wp fun us h3 tk3 hn3 p3 => R.strE r1 fun t => ?_
    exact fin ⟨(k1.trans k2).trans p3.1, p3.2.1, congrArg (x :: ·) p3.2.2.1, .cons (p3.1.R (st.wo.fr' tp v'.2) r2) p3.2.2.2⟩
theorem sound_evO {n : Nat} (ih : Sound prog w nm fn FT base N n) : ∀ sc e tp ρ v, evO nm fn FT (n + 1) sc e tp ρ = some v → ∀ A fr env W s, St (prog := prog) (w := w) (nm := nm) A fr base N env sc W ρ s →
    Ok (model prog w) A (evalPart (e.py nm fn) env) s (fun u h' => Kp (SS fr tp) s.heap h' ∧ PartR u v) := by
  intro sc e tp ρ v h A fr env W s st
  cases e with
  | none => exact someE h (Ok.pure ⟨Kp.refl, .none⟩)
  | some e => exact I.osome h fun i t h1 => ih.k h1 st fun u h' tk hn k1 r1 _ => fin ⟨k1, PartR.of r1⟩
theorem truth_ok {d : D} {b : Bool} {v : Value} {W : Addr → Prop} (e : truthD d = some b) (r : R prog w s.heap W v d) : Ok (model prog w) A (truthy v) s (fun u h' => h' = s.heap ∧ u = b) := by
  revert r
  refine truthE e (fun b r => ?_) (fun i r => ?_) (fun x hsz r => ?_) (fun ds hsz r => ?_)
  · exact R.boolE r (wpAny_truthy_bool ⟨_, _, rfl, rfl, rfl⟩)
  · exact R.intE r fun t => PyProof.Rows.truthy_int ⟨_, _, rfl, rfl, rfl⟩
  · exact R.strE r fun t => PySem.P.truthy_str (by have : x.length ≤ 100000 := hsz; omega) ⟨_, _, rfl, rfl, rfl⟩
  · refine R.lstE r fun a vs n _ hv rb => wpAny_truthy_list (isList_of_sq hv) (by have : ds.length ≤ 100000 := hsz; rw [List.size_toArray, rb.length]; omega) ⟨_, _, rfl, rfl, ?_⟩
    cases rb <;> rfl
theorem isTrue_default {e : Expr} {whole : Sem Value} {P : Bool → Heap → Prop} (h : Ok (model prog w) A whole s fun v h' => ∀ tk, s.toks ≤ tk → Ok (model prog w) A (truthy v) (up s h' tk) P)
    (he : isTrue e env whole = (do let v ← whole; standAt e.pos; holding [v] (truthy v))) : Ok (model prog w) A (isTrue e env whole) s P :=
  wpAny_isTrue_value (h.wp fun v h' tk hn p => p tk hn) he
noncomputable def TrueBy (nm fn : Nat → Str) (FT : List FE) (e : X) : Prop := (∀ n sc tp ρ, evT nm fn FT (n + 1) sc e tp ρ = match ev nm fn FT n sc e tp ρ with | some v => truthD v.1 | none => none) ∧
  ∀ env, isTrue (e.py nm fn) env (eval (e.py nm fn) env) = (do let v ← eval (e.py nm fn) env; standAt (e.py nm fn).pos; holding [v] (truthy v))
@[elab_as_elim] theorem trueCases (nm fn : Nat → Str) (FT : List FE) {P : X → Prop} (h1 : ∀ a p, P (.not a p)) (h2 : ∀ a b p, P (.and a b p)) (h3 : ∀ a b p, P (.or a b p)) (h4 : ∀ op a b p, P (.cmp op a b p)) (h5 : ∀ t a b p, P (.ite t a b p)) (h6 : ∀ e, TrueBy nm fn FT e → P e) (e : X) : P e := match e with
  | .not _ _ => h1 _ _
  | .and _ _ _ => h2 _ _ _
  | .or _ _ _ => h3 _ _ _
  | .cmp _ _ _ _ => h4 _ _ _ _
  | .ite _ _ _ _ => h5 _ _ _ _
  | .var _ _ => h6 _ ⟨fun _ _ _ _ => rfl, fun _ => rfl⟩
  | .int _ _ _ => h6 _ ⟨fun _ _ _ _ => rfl, fun _ => rfl⟩
  | .str _ _ _ => h6 _ ⟨fun _ _ _ _ => rfl, fun _ => rfl⟩
  | .neg _ _ => h6 _ ⟨fun _ _ _ _ => rfl, fun _ => rfl⟩
  | .bin _ _ _ _ => h6 _ ⟨fun _ _ _ _ => rfl, fun _ => rfl⟩
  | .item _ _ _ => h6 _ ⟨fun _ _ _ _ => rfl, fun _ => rfl⟩
  | .slice _ _ _ _ _ => h6 _ ⟨fun _ _ _ _ => rfl, fun _ => rfl⟩
  | .rev _ _ _ _ _ _ => h6 _ ⟨fun _ _ _ _ => rfl, fun _ => rfl⟩
  | .list _ _ => h6 _ ⟨fun _ _ _ _ => rfl, fun _ => rfl⟩
  | .tup _ _ _ => h6 _ ⟨fun _ _ _ _ => rfl, fun _ => rfl⟩
  | .dict _ _ _ => h6 _ ⟨fun _ _ _ _ => rfl, fun _ => rfl⟩
  | .lcomp _ _ _ _ => h6 _ ⟨fun _ _ _ _ => rfl, fun _ => rfl⟩
  | .dcomp _ _ _ _ _ => h6 _ ⟨fun _ _ _ _ => rfl, fun _ => rfl⟩
  | .call _ _ _ _ => h6 _ ⟨fun _ _ _ _ => rfl, fun _ => rfl⟩
  | .bi _ _ _ _ => h6 _ ⟨fun _ _ _ _ => rfl, fun _ => rfl⟩
  | .meth _ _ _ _ _ => h6 _ ⟨fun _ _ _ _ => rfl, fun _ => rfl⟩
  | .isSB _ _ _ _ _ _ _ => h6 _ ⟨fun _ _ _ _ => rfl, fun _ => rfl⟩
  | .isB _ _ _ _ => h6 _ ⟨fun _ _ _ _ => rfl, fun _ => rfl⟩
theorem sound_evT {n : Nat} (ih : Sound prog w nm fn FT base N n) : ∀ sc e tp ρ b, evT nm fn FT (n + 1) sc e tp ρ = some b → ∀ A fr env W s, St (prog := prog) (w := w) (nm := nm) A fr base N env sc W ρ s →
    Ok (model prog w) A (isTrue (e.py nm fn) env (eval (e.py nm fn) env)) s (fun u h' => Kp (SS fr tp) s.heap h' ∧ u = b) := by
  intro sc e tp ρ b h A fr env W s st
  revert h
  refine trueCases nm fn FT (fun a p h => ?_) (fun a c p h => ?_) (fun a c p h => ?_) (fun op a c p h => ?_) (fun _ _ _ _ h => optE h) (fun e he h => ?_) e
  · exact mapE h fun b h1 => wpAny_isTrue_Not (ih.kT h1 st fun h' tk hn k1 _ => fin ⟨k1, rfl⟩)
  · refine I.bT h (fun h1 h => ?_) fun h1 h => ?_
    · refine wpAny_isTrue_BoolOp (wpAny_allTrue_And_cons (ih.kT h1 st fun h' tk hn k1 st1 => wpAny_allTrue_And_cons (ih.kT h st1 fun h'' tk' hn' k2 _ => ?_)))
      cases b
      · exact ⟨_, _, rfl, k1.trans k2, rfl⟩
      · exact wpAny_allTrue_And_nil ⟨_, _, rfl, k1.trans k2, rfl⟩
    · exact someE h (wpAny_isTrue_BoolOp (wpAny_allTrue_And_cons (ih.kT h1 st fun h' tk hn k1 _ => ⟨_, _, rfl, k1, rfl⟩)))
  · refine I.bT h (fun h1 h => ?_) fun h1 h => ?_
    · exact someE h (wpAny_isTrue_BoolOp (wpAny_allTrue_Or_cons (ih.kT h1 st fun h' tk hn k1 _ => ⟨_, _, rfl, k1, rfl⟩)))
    · refine wpAny_isTrue_BoolOp (wpAny_allTrue_Or_cons (ih.kT h1 st fun h' tk hn k1 st1 => wpAny_allTrue_Or_cons (ih.kT h st1 fun h'' tk' hn' k2 _ => ?_)))
      cases b
      · exact wpAny_allTrue_Or_nil ⟨_, _, rfl, k1.trans k2, rfl⟩
      · exact ⟨_, _, rfl, k1.trans k2, rfl⟩
  · refine I.tcmp h fun x y h1 h2 h => wpAny_isTrue_Compare1 (ih.k h1 st fun u h' tk hn k1 r1 st1 => ih.k h2 st1 fun v h'' tk' hn' k2 r2 st2 => ?_) (beh_py _ c)
    have hu := st.cx.un
    refine (cmp_ok (W := fun _ => False) (s := up s h'' tk') h (k2.R (st.wo.fr' tp x.2) r1) r2 (by omega)).wp2 fun c h3 tk3 hn3 k3 r3 => ?_
    rw [isBool_of r3]
    exact wpAny_truthy_bool (fin ⟨(k1.trans k2).trans (Kp.of k3), rfl⟩)
  · rw [he.1] at h
    refine I.b1 h fun v h1 h => isTrue_default (ih.k h1 st fun u h' tk hn k1 r1 _ => fin fun tk hn => ?_) (he.2 env)
    exact (truth_ok (s := up s h' tk) h r1).mono fun u h'' q => ⟨q.1 ▸ k1, q.2⟩
end
end Mine
end
section
open PySem PySem.W PyProof.Rows
set_option autoImplicit false
namespace Mine
section
variable {prog : Program} {w : World} {nm fn : Nat → Str} {FT : List FE} {base : Heap} {N : Nat} {A : Around} {fr : List Env} {env : Env} {sc : Scope} {W : Bool → Addr → Prop} {ρ : Rho} {s : Shared}
theorem fresh_no {h : Heap} (wo : WOk fr W h) (t : Bool) : ∀ h' : Heap, h.objs.size ≤ h'.objs.size → ¬ W t h'.objs.size := fun h' hle q =>
  wo.new t (a := h'.objs.size) (Heap.get?_none_of_le hle) q
theorem EvP.of {tp : Bool} {h h' : Heap} {d : D} {t : Bool} {v : Value} (k : Kp (SS fr tp) h h') (r : R prog w h' (W t) v d) : EvP prog w fr W tp h (itV d t) v h' := ⟨k, r.itV⟩
variable (prog w nm fn FT base N) in
abbrev EvOk (n : Nat) (e : X) : Prop := ∀ sc tp ρ v, ev nm fn FT (n + 1) sc e tp ρ = some v → ∀ A fr env W s, St (prog := prog) (w := w) (nm := nm) A fr base N env sc W ρ s →
    Ok (model prog w) A (eval (e.py nm fn) env) s (EvP prog w fr W tp s.heap v)
variable (am : Am prog w nm fn FT base N) {n : Nat} (ih : Sound prog w nm fn FT base N n)
include am in
theorem ev_var (i : Nat) (p : Pos) : EvOk prog w nm fn FT base N n (.var i p) := by
  intro sc tp ρ v e A fr env W s st
  obtain ⟨σ, f, m⟩ := st.e.fm
  obtain ⟨hk, u, hu, r⟩ := m i v.1 v.2 e
  exact load_ok st.e.g (f.holds hk hu) ⟨Kp.refl, r⟩ (am.nmd i)
include ih
theorem ev_neg (a : X) (p : Pos) : EvOk prog w nm fn FT base N n (.neg a p) := by
  intro sc tp ρ v e A fr env W s st
  refine I.neg e fun i t h1 => wpAny_UnaryOp (ih.k h1 st fun u h' tk hn k1 r1 _ => R.intE r1 fun t => PyProof.Rows.neg_int (fin ⟨k1, .int _ _⟩))
theorem ev_bin (op : BOp) (a b : X) (p : Pos) : EvOk prog w nm fn FT base N n (.bin op a b p) := by
  intro sc tp ρ v e A fr env W s st
  refine I.bin e fun x y d h1 h2 hd => wpAny_BinOp (ih.k h1 st fun u h' tk hn k1 r1 st1 => ih.k h2 st1 fun v h'' tk' hn' k2 r2 st2 => ?_)
  exact (bin_ok (W := W (x.2 || y.2)) (s := up s h'' tk') hd (k2.R (st.wo.fr' tp x.2) r1) r2 (fresh_no st2.wo _ _ (Nat.le_refl _)) fun xs ys e1 e2 => ⟨fun vs r => RL.weak st2.wo _ _ (fun q => by rw [q]; rfl) r, fun vs r => RL.weak st2.wo _ _ (fun q => by rw [q, Bool.or_true]) r⟩).wp2 fun c h3 tk3 hn3 k3 r3 => fin (EvP.of ((k1.trans k2).trans (Kp.of k3)) r3)
theorem ev_cmp (op : COp) (a b : X) (p : Pos) : EvOk prog w nm fn FT base N n (.cmp op a b p) := by
  intro sc tp ρ v e A fr env W s st
  refine I.cmp e fun x y d h1 h2 hd => wpAny_Compare1 (ih.k h1 st fun u h' tk hn k1 r1 st1 => ih.k h2 st1 fun v h'' tk' hn' k2 r2 st2 => ?_) (beh_py _ b)
  have hu := st.cx.un
  exact (cmp_ok (W := W false) (s := up s h'' tk') hd (k2.R (st.wo.fr' tp x.2) r1) r2 (by omega)).wp2 fun c h3 tk3 hn3 k3 r3 => fin ⟨(k1.trans k2).trans (Kp.of k3), r3⟩
theorem ev_ite (t a b : X) (p : Pos) : EvOk prog w nm fn FT base N n (.ite t a b p) := by
  intro sc tp ρ v e A fr env W s st
  refine I.ite e (fun h1 e => ?_) fun h1 e => ?_
  · refine wpAny_IfExp (ih.kT h1 st fun h' tk hn k1 st1 => ?_)
    rw [if_pos rfl]
    exact ih.k e st1 fun v h'' tk' hn' k2 r2 _ => fin ⟨k1.trans k2, r2⟩
  · refine wpAny_IfExp (ih.kT h1 st fun h' tk hn k1 st1 => ?_)
    rw [if_neg Bool.false_ne_true]
    exact ih.k e st1 fun v h'' tk' hn' k2 r2 _ => fin ⟨k1.trans k2, r2⟩
theorem ev_item (a b : X) (p : Pos) : EvOk prog w nm fn FT base N n (.item a b p) := by
  intro sc tp ρ v e A fr env W s st
  refine I.item e fun x y d h1 h2 hd => Subscript_ (ih.k h1 st fun u h' tk hn k1 r1 st1 => ih.k h2 st1 fun v h'' tk' hn' k2 r2 st2 => ?_)
  obtain ⟨T, id, hT, hl, g⟩ := getItem_ok (A := A) (s := up s h'' tk') hd (k2.R (st.wo.fr' tp x.2) r1) r2
  exact tail_any hT hl (g.wp2 fun c h3 tk3 hn3 k3 r3 => fin (EvP.of ((k1.trans k2).trans (Kp.of k3)) r3)) (sub_py b u v)
theorem ev_slice (a : X) (lo hi : OX) (ps p : Pos) : EvOk prog w nm fn FT base N n (.slice a lo hi ps p) := by
  intro sc tp ρ v e A fr env W s st
  refine I.slice e fun x l h d h1 h2 h3 hd => Subscript_ (ih.k h1 st fun u h' tk hn k1 r1 st1 => wpAny_Slice (ih.kO h2 st1 fun vl h'' tk' hn' k2 r2 st2 => ih.kO h3 st2 fun vu h3 tk3 hn3 k3 r3 st3 => ?_))
  rw [evalPart_none]
  refine wpAny_pure ?_
  obtain ⟨T, id, hT, hl, g⟩ := getItem_slice_ok (A := A) (s := up s h3 tk3) hd ((k2.trans k3).R (st.wo.fr' tp x.2) r1) r2 r3 (fresh_no st3.wo _)
  exact tail_any (hT _ rfl) hl (g.wp2 fun c h4 tk4 hn4 k4 r4 => fin (EvP.of (((k1.trans k2).trans k3).trans (Kp.of k4)) r4)) rfl
theorem ev_rev (a : X) (k : Nat) (pc pn ps p : Pos) : EvOk prog w nm fn FT base N n (.rev a k pc pn ps p) := by
  intro sc tp ρ v e A fr env W s st
  refine I.rev e fun ds t h1 hsz => Subscript_ (ih.k h1 st fun u h' tk hn k1 r1 st1 => wpAny_Slice ?_)
  rw [evalPart_none]
  refine wpAny_pure (wpAny_pure ?_)
  rw [evalPart_some]
  refine wpAny_UnaryOp (wpAny_Constant_int (PyProof.Rows.neg_int ?_))
  obtain ⟨T, id, hT, hl, g⟩ := getItem_rev_ok (A := A) (s := up s h' (tk + 1 + 1)) hsz r1 (.int (-1) (tk + 1)) (fresh_no st1.wo _)
  exact tail_any (ops := [u, .ref h'.objs.size]) (hT _ rfl) hl (g.wp2 fun c h3 tk3 hn3 k3 r3 => fin ⟨k1.trans (Kp.of k3), r3⟩) rfl
theorem ev_list (es : XS) (p : Pos) : EvOk prog w nm fn FT base N n (.list es p) := by
  intro sc tp ρ v e A fr env W s st
  refine I.list e fun vs h1 hsz => wpAny_List (ih.ks h1 st fun us h' tk hn k1 r1 st1 => ⟨by rw [r1.length, sizeLine_eq]; omega, fin ⟨k1.trans (Kp.of fun _ _ e => Heap.get?_push_of_some _ e), ?_⟩⟩)
  exact R_push_lst (fresh_no st1.wo _ _ (Nat.le_refl _)) (r1.rl st1.wo _ fun q => by rw [q]; rfl)
theorem ev_tup (es : XS) (k : Nat) (p : Pos) : EvOk prog w nm fn FT base N n (.tup es k p) := by
  intro sc tp ρ v e A fr env W s st
  refine I.tup e fun vs h1 hsz => wpAny_Tuple (ih.ks h1 st fun us h' tk hn k1 r1 st1 => ⟨by rw [r1.length, sizeLine_eq]; omega, fin ⟨k1.trans (Kp.of fun _ _ e => Heap.get?_push_of_some _ e), ?_⟩⟩)
  exact R_push_tup (fresh_no st1.wo _ _ (Nat.le_refl _)) (r1.rl st1.wo _ fun q => by rw [q]; rfl)
theorem args_ok {f : Value} {as : XS} {p : Pos} {Q : Args → Shared → Prop} {E : Value → Shared → Prop} {vs : List V} {tp : Bool} (h1 : evs nm fn FT n sc as tp ρ = some vs) (hpos : 0 < vs.length)
    (st : St (prog := prog) (w := w) (nm := nm) A fr base N env sc W ρ s)
    (h : ∀ us h' tk, s.toks ≤ tk → Kp (SS fr tp) s.heap h' → RVs prog w h' W us vs → St (prog := prog) (w := w) (nm := nm) A fr base N env sc W ρ (up s h' tk) → Q ⟨us, []⟩ (up s h' tk)) :
    wpAny (model prog w) A (evalArgs f true (backTo p (starEach (as.py nm fn) env)) []) Q E s := by
  have key := ih.ks (p := p) (Q := fun us s' => Q ⟨us, []⟩ s') (E := E) h1 st h
  cases as with
  | nil => cases n with
    | zero => exact optE h1
    | succ n => exact absurd hpos (someE h1 (Nat.lt_irrefl _))
  | cons a r =>
  have e : backTo p (starEach ((XS.cons a r).py nm fn) env) = (false, eval (a.py nm fn) env) :: backTo p (starEach (r.py nm fn) env) := by
    show backTo p (starEach (a.py nm fn :: r.py nm fn) env) = _
    rw [star_py]; rfl
  rw [e] at key ⊢
  exact Calls.evalArgs_plain key
omit ih in
theorem args_plain {as : XS} {p : Pos} : (backTo p (starEach (as.py nm fn) env)).any (·.1) = false := plain_py as p
omit ih in
theorem args_few {tp : Bool} : ∀ {n : Nat} {as : XS} {vs : List V}, evs nm fn FT n sc as tp ρ = some vs → (as.py nm fn).length = vs.length
  | 0, _, _, h => optE h
  | n + 1, .nil, vs, h => someE h rfl
  | n + 1, .cons a r, vs, h => I.cons h fun v vs' _ h2 => congrArg (· + 1) (args_few h2)
end
end Mine
end
section
set_option maxRecDepth 100000
open PySem PySem.W PyProof.Rows PySem.Calls
set_option autoImplicit false
namespace Mine
section
variable {prog : Program} {w : World} {A : Around} {E : Value → Shared → Prop} {s : Shared}
theorem kind_isn : builtinKind "issubclass.nested" = none := by decide +kernel
theorem plain_isn : plainId "issubclass.nested" = true := by decide +kernel
theorem args_isn (a b c : Value) : argsOk "issubclass.nested" ⟨[a, b, c], []⟩ := by unfold argsOk; kernel_rfl
theorem str_self : isSubtype (.type "str") (.type "str") = pure true := by rw [isSubtype_type]; kernel_rfl
theorem isn_str {k : Value} {dep : Int} {tk : Tok} {Q : Fin → Shared → Prop} (hk : k = .int dep tk) (hq : Q (.done (.ret (.bool true))) s) :
    wpAny (model prog w) A (Builtin.«issubclass.nested» ⟨[.type "str", .type "str", k], []⟩) Q E s := by
  subst hk
  have hm := F.isi_meta_str
  have hself := str_self
  repeat (any_goals (first | assumption | (rw [if_pos hm]) | (rw [hself]) | wp_step))
theorem isn_str_meets (dep : Int) (tk : Tok) : Meets (Builtin.«issubclass.nested» ⟨[.type "str", .type "str", .int dep tk], []⟩) (fun _ R s => R (.ok (.ret (.bool true))) s) :=
  .of_wp fun _ _ _ _ _ h => isn_str rfl ⟨_, rfl, h⟩
theorem code_meets {id : String} {B : Builtin} {args : List Value} {S : PySem.Spec} {R : Result → Shared → Prop} (kind : builtinKind id = none) (plain : plainId id = true)
    (entry : entryFor table id = some B) (ok : argsOk id ⟨args, []⟩) (g : Meets (B ⟨args, []⟩) S) (h : S A R s) : codeAny (model prog w) A (.call (.builtin id) ⟨args, []⟩) R s := by
  refine (codeAny_call_builtin plain entry ?_)
  have hfin := g prog w A R s h
  simp only [checkBuiltinCall, kind]
  cases hsig : Manifest.signature? id with
  | none => exact wpAny_pure hfin
  | some sig =>
    simp only [argsOk, hsig] at ok
    have h2 : Bind.checkArgs id sig ⟨args, []⟩ = pure () := ok
    show wpAny _ _ (Bind.checkArgs id sig ⟨args, []⟩) _ _ s
    rw [h2]; exact wpAny_pure hfin
theorem isn_tuple {tp : Addr} {tk : Tok} {s : Shared} {Q : Fin → Shared → Prop} (htp : s.heap.get? tp = some { cls := .type "tuple", data := .seq #[.type "str", .type "bytes"] })
    (hq : ∀ tk, Q (.done (.ret (.bool true))) { s with toks := tk }) : wpAny (model prog w) A (Builtin.«issubclass.nested» ⟨[.type "str", .ref tp, .int 0 tk], []⟩) Q E s := by
  obtain ⟨h, g, d, t, os⟩ := s
  have hT2 : (⟨h, g, d, t, os⟩ : Shared).TypeIs (.ref tp) "tuple" := ⟨_, htp, rfl⟩
  have f1 := F.isi_sub_tuple
  repeat (any_goals (first | assumption | wp_step))
  refine code_meets (A := A) kind_isn plain_isn F.entry_issubclass_nested (args_isn _ _ _) (isn_str_meets 1 _) ?_
  dsimp only
  repeat (any_goals (first | assumption | wp_step))
  exact hq _
theorem isSB_meets (tp : Addr) : Meets (Builtin.«issubclass» ⟨[.type "str", .ref tp], []⟩) (fun _ R s => s.heap.get? tp = some { cls := .type "tuple", data := .seq #[.type "str", .type "bytes"] } ∧ ∀ tk, R (.ok (.ret (.bool true))) { s with toks := tk }) :=
  fun _ _ _ _ _ hs => issubclass_outer (isn_tuple hs.1 fun tk => hs.2 tk)
end
section
variable {prog : Program} {w : World} {nm fn : Nat → Str} {FT : List FE} {base : Heap} {N : Nat} {A : Around} {fr : List Env} {env : Env} {sc : Scope} {W : Bool → Addr → Prop} {ρ : Rho} {s : Shared}
variable (am : Am prog w nm fn FT base N) {n : Nat} (ih : Sound prog w nm fn FT base N n)
include am ih
theorem ev_isSB (a : X) (p1 p2 p3 : Pos) (k : Nat) (p4 p : Pos) : EvOk prog w nm fn FT base N n (.isSB a p1 p2 p3 k p4 p) := by
  intro sc tp ρ v e A fr env W s st
  refine I.isSB e fun t h1 g1 g2 g3 => ?_
  show wpAny _ A (do callWith p (← eval (.Name "issubclass" p1) env) [] (backTo p (starEach [a.py nm fn, .Tuple [.Name "str" p2, .Name "bytes" p3] k p4] env)) (backToKw p (keywordEach [] env))) _ _ s
  refine wpAny_bind (am.hasSub.ld st g1 fun tk hn st0 => ?_)
  rw [star_py]
  refine callWith_builtin rfl (evalArgs_plain (spliced_cons (ih.k h1 st0 fun u h' tk' hn' k1 r1 st1 => ?_)))
  rw [isTy_of r1]
  refine spliced_cons (wpAny_Tuple (k := k) (spliced_cons (am.hasStr.ld st1 g2 fun tk2 hn2 st2 => spliced_cons (am.hasBy.ld st2 g3 fun tk3 hn3 _ => spliced_nil ⟨by decide, spliced_nil ?_⟩))))
  exact call_issubclass (isSB_meets _) ⟨Heap.get?_push_size _ rfl, fun tk => fin ⟨k1.trans (Kp.of fun _ _ e => Heap.get?_push_of_some _ e), .bool _⟩⟩
theorem ev_isB (a : X) (p1 p2 p : Pos) : EvOk prog w nm fn FT base N n (.isB a p1 p2 p) := by
  intro sc tp ρ v e A fr env W s st
  refine I.isB e fun x t h1 g1 g2 => ?_
  show wpAny _ A (do callWith p (← eval (.Name "isinstance" p1) env) [] (backTo p (starEach [a.py nm fn, .Name "bytes" p2] env)) (backToKw p (keywordEach [] env))) _ _ s
  refine wpAny_bind (am.hasIsi.ld st g1 fun tk hn st0 => ?_)
  rw [star_py]
  exact callWith_builtin rfl (evalArgs_plain (spliced_cons (ih.k h1 st0 fun u h' tk' hn' k1 r1 st1 => spliced_cons (am.hasBy.ld st1 g2 fun tk2 hn2 _ => spliced_nil (R.strE r1 fun t => IsiPair.str_bytes (fin ⟨k1, .bool _⟩))))))
theorem ev_bi (b : Bi) (fp : Pos) (as : XS) (p : Pos) : EvOk prog w nm fn FT base N n (.bi b fp as p) := by
  intro sc tp ρ v e A fr env W s st
  refine I.bi e fun vs d h1 g1 hl hd => ?_
  show wpAny _ A (do callWith p (← eval (.Name b.py fp) env) [] (backTo p (starEach (as.py nm fn) env)) (backToKw p (keywordEach [] env))) _ _ s
  refine wpAny_bind ((am.hasBi b).ld st g1 (fun tk hn st0 => ?_) (by cases b <;> rfl))
  have run : ∀ us h' tk', tk ≤ tk' → Kp (SS fr tp) s.heap h' → RVs prog w h' W us vs → St (prog := prog) (w := w) (nm := nm) A fr base N env sc W ρ (up s h' tk') → wpAny (model prog w) A (call b.val us) (OkP s (EvP prog w fr W tp s.heap (d, false))) (fun _ _ => False) (up s h' tk') := fun us h' tk' hn' k1 r1 st1 =>
    (bi_ok (W := W false) (s := up s h' tk') hd (r1.rl st1.wo true fun _ => rfl) st.cx.hd (fresh_no st1.wo false) fun a q y => st1.wo.new false q y).wp2 fun v h'' tk'' _ k2 r2 => fin ⟨k1.trans (Kp.of k2), r2⟩
  cases b
  all_goals first
    | exact callWith_builtin args_plain (args_ok ih h1 hl.1 st0 run)
    | exact PySem.callWith_type args_plain (args_ok ih h1 hl.1 st0 run)
theorem ev_call (f : Nat) (fp : Pos) (as : XS) (p : Pos) : EvOk prog w nm fn FT base N n (.call f fp as p) := by
  intro sc tp ρ v e A fr env W s st
  refine I.call e fun fe vs d hf h1 g1 g2 hl hd => ?_
  show wpAny _ A (do callWith p (← eval (.Name (fn f) fp) env) [] (backTo p (starEach (as.py nm fn) env)) (backToKw p (keywordEach [] env))) _ _ s
  refine wpAny_bind (am.fnE hf st g1 fun fa o fd tk hn st0 ho hod hN con => callWith_function (o := o) (fd := fd) (args_ok ih h1 hl.1 st0 fun us h' tk' hn' k1 r1 st1 => ⟨⟨st1.cx.stay _ _ ho, hod⟩, ?_⟩))
  have cx : Cx A fr base h' fe.need := ⟨st1.cx.hd, st1.cx.frs, st1.cx.stay, st1.cx.ff, Nat.le_trans (Nat.add_le_add_left hN _) st1.cx.dep, Nat.le_trans (Nat.add_le_add_right (Nat.add_le_add_left (Nat.mul_le_mul_left 16 hN) _) _) st1.cx.un, st1.cx.low⟩
  have hw : (∀ a, frA fr a → W (!untaint vs) a) ∧ ∀ a, W (!untaint vs) a → ∃ o, h'.get? a = some o := by
    cases untaint vs with
    | false => exact ⟨st1.wo.fr, fun a ha => st1.wo.al a (st1.wo.le a ha)⟩
    | true => exact ⟨fun a ha => st1.wo.le a (st1.wo.fr a ha), st1.wo.al⟩
  refine (con A fr (up s h' tk') cx st1.tk _ d hd (W (!untaint vs)) us hw.1 hw.2 (r1.rl st1.wo _ fun q => by rw [q]; rfl)).wp2 fun v h'' tk'' _ k2 r2 => fin (EvP.of (k1.trans (k2.sub fun a q => ⟨?_, q.2⟩)) r2)
  cases tp with
  | true => rfl
  | false => exact absurd q.1 (by rw [show fe.exact = true from g2]; exact Bool.false_ne_true)
theorem base_attr {o : X} (h : o.base = true) (name : Str) : attributeBase (o.py nm fn) name env (eval (o.py nm fn) env) = eval (o.py nm fn) env := by
  cases o <;> first | rfl | cases h
theorem ev_meth (m : Me) (o : X) (ap : Pos) (as : XS) (p : Pos) : EvOk prog w nm fn FT base N n (.meth m o ap as p) := by
  intro sc tp ρ v e A fr env W s st
  refine I.meth e fun x vs d h0 h1 g1 g2 hl hd => ?_
  refine wpAny_Call_method_lateS (base_attr am ih g2 _) ?_ g1 (ih.k h0 st fun u h' tk hn k1 r1 st1 => ?_)
  · have := args_plain (nm := nm) (fn := fn) (env := env) (as := as) (p := p)
    rw [List.any_eq_false] at this
    simp only [Bool.and_eq_true, decide_eq_true_eq]
    refine ⟨⟨List.all_eq_true.mpr fun x hx => by have := this x hx; simpa using this, rfl⟩, ?_⟩
    rw [args_few h1]; have := hl.2; simp; omega
  · obtain ⟨hT, hdn⟩ := me_self (s := up s h' tk) hd r1
    refine ⟨m.at.1, m.at.2, m.plain, m.slot, m.ty, hT, hdn, callWith_builtin args_plain (args_ok ih h1 hl.1 st1 fun us h'' tk' hn' k2 r2 st2 => ?_)⟩
    exact (me_ok (W := W (x.2 || !untaint vs)) (s := up s h'' tk') hd ((k2.R (st.wo.fr' tp x.2) r1).weak st2.wo _ _ fun q => by rw [q]; rfl) (r2.rl st2.wo _ fun q => by rw [q, Bool.not_false, Bool.or_true]) (fresh_no st2.wo _)).wp2 fun v h3 tk3 _ k3 r3 => fin (EvP.of ((k1.trans k2).trans (Kp.of k3)) r3)
end
end Mine
end
section
set_option maxRecDepth 100000
open PySem PySem.W PyProof.Rows PySem.Calls
set_option autoImplicit false
namespace Mine
theorem Kp.sameBut {S : Addr → Prop} {h h₁ h' : Heap} {D : Addr} (k : Kp S h h₁) (hs : Heap.SameBut D h₁ h') (hD : h.get? D = none) : Kp S h h' :=
  ⟨fun b o hS e => (hs.2 b fun q => by rw [q, hD] at e; cases e).trans (k.out b o hS e), fun b o e => by
    obtain ⟨sl, e'⟩ := k.all b o e
    exact ⟨sl, (hs.2 b fun q => by rw [q, hD] at e; cases e).trans e'⟩⟩
section
variable {prog : Program} {w : World} {nm fn : Nat → Str} {FT : List FE} {base : Heap} {N : Nat} {A : Around} {fr : List Env} {env : Env} {sc : Scope} {W : Bool → Addr → Prop} {ρ : Rho} {s : Shared}
theorem St.lift {M : Addr → Prop} {h' : Heap} {tk : Nat} (x : St (prog := prog) (w := w) (nm := nm) A fr base N env sc W ρ s) (keep : ∀ b o, s.heap.get? b = some o → h'.get? b = some o)
    (hM : ∀ a, M a → s.heap.get? a = none ∧ ∃ o, h'.get? a = some o) (htk : s.toks ≤ tk) :
    St (prog := prog) (w := w) (nm := nm) A fr base N env sc (fun t a => W t a ∨ M a) ρ (up s h' tk) where
  cx := x.cx.step (tp := false) (Kp.of keep)
  e := ⟨x.e.g, x.e.sc, let ⟨σ, a, b⟩ := x.e.fm; ⟨σ, a.step (S := fun _ => False) (Kp.of keep), fun i d t e => let ⟨q, u, c, r⟩ := b i d t e; ⟨q, u, c, r.mono (fun b o _ e => keep b o e) fun a q => q.elim .inl fun q => .inr (hM a q).1⟩⟩⟩
  wo := ⟨fun a q => .inl (x.wo.fr a q), fun a q => q.imp (x.wo.le a) id, fun a q => q.elim (fun q => let ⟨o, e⟩ := x.wo.al a q; ⟨o, keep a o e⟩) fun q => (hM a q).2⟩
  tk := Nat.le_trans x.tk htk
theorem St.low (x : St (prog := prog) (w := w) (nm := nm) A fr base N env sc W ρ s) : (s.heap.objs.size == sysModules) = false := by
  obtain ⟨b, o, q, e⟩ := x.cx.low
  exact beq_eq_false_iff_ne.mpr (Nat.ne_of_gt (Nat.lt_of_le_of_lt q (Heap.lt_size e)))
variable (am : Am prog w nm fn FT base N) {n : Nat} (ih : Sound prog w nm fn FT base N n)
include ih
theorem ev_dict (ks es : XS) (p : Pos) : EvOk prog w nm fn FT base N n (.dict ks es p) := by
  intro sc tp ρ v e A fr env W s st
  cases ks with
  | nil =>
    cases es with
    | nil =>
      refine someE e ?_
      show wpAny _ A (do standAt p; newDict) _ _ s
      exact wpAny_bind (wpAny_standAt (wpAny_newObj_type (fin ⟨Kp.of fun _ _ e => Heap.get?_push_of_some _ e, .dct (kvs := []) (st.wo.new false (push_none _)) st.low (Heap.DictOf.new _) rfl .nil⟩)))
    | cons => exact optE e
  | cons k0 ks0 =>
  refine I.dict e fun kvs h1 hg0 hg1 hg2 hg3 => ?_
  have hl := (ih.evP _ _ _ _ _ _ h1 A fr env W s p st).1
  refine wpAny_Dict_pairs (knd := strKind prog w) (prs_shape nm fn env p (.cons k0 ks0) es) (fun q => ?_) (Nat.le_trans (Nat.le_of_eq hl) hg0) ?_
  · rw [q] at hl; exact absurd hg1 (by rw [← hl]; exact Nat.lt_irrefl _)
  have hD0 : s.heap.get? s.heap.objs.size = none := push_none _
  have hn := st.wo.new false hD0
  have st1 := st.lift (M := fun a => a = s.heap.objs.size) (h' := s.heap.push { cls := .type "dict", data := .dict #[] }) (tk := s.toks) (fun _ _ e => Heap.get?_push_of_some _ e) (fun a q => by rw [q]; exact ⟨hD0, _, Heap.get?_push_size _ rfl⟩) (Nat.le_refl _)
  refine (ih.evP _ _ _ _ _ _ h1 A fr env _ _ p st1).2.wp fun ps h' tk hn1 p1 => ?_
  have hd0 : h'.DictOf (strKind prog w) s.heap.objs.size [] := by
    obtain ⟨o, es, ep, ho, r⟩ := (Heap.DictOf.new (knd := strKind prog w) s.heap)
    exact ⟨o, es, ep, p1.1.out _ _ (fun q => hn (st.wo.fr' tp false _ q)) ho, r⟩
  refine display_done_str p1.2.1 (by rw [p1.2.2.1]; exact hg2) hd0 fun h'' hd hs => fin ⟨((Kp.of fun _ _ e => Heap.get?_push_of_some _ e).trans p1.1).sameBut hs hD0, .dct hn st.low hd p1.2.2.1.symm ?_⟩
  have := p1.2.2.2.rl (st1.step hn1 p1.1).wo false fun q => by rw [hg3] at q; cases q
  rw [List.map_map] at this
  exact this.mono (fun b o hb e => (hs.2 b fun q => hb (.inr q)).trans e) fun a q => .inl (.inl q)
end
end Mine
end
section
set_option maxRecDepth 100000
open PySem PySem.W PyProof.Rows PySem.Calls
set_option autoImplicit false
namespace Mine
noncomputable def Wk (prog : Program) (w : World) (A : Around) (I : Addr) (fp wr : List Addr) (ds : List D) (en : Bool) (h₀ : Heap) (W : Addr → Prop) (At : Nat → Heap → Prop) : Prop :=
  (∀ i h, At i h → ∀ b ∈ fp, ∃ o, h.get? b = some o) ∧
    ((en = false ∧ ∃ P, Walks prog w A I fp wr ds.length P At ∧ ∀ i v, P i v → ∃ d, ds[i]? = some d ∧ R prog w h₀ (fun a => W a ∨ a ∈ wr) v d) ∨
     (en = true ∧ ∃ P Mid, WalksT prog w A I fp wr ds.length P At Mid ∧
        ∀ i vals, P i vals → ∃ a b da db, vals = #[a, b] ∧ ds[i]? = some (.tup [da, db]) ∧ R prog w h₀ (fun a => W a ∨ a ∈ wr) a da ∧ R prog w h₀ (fun a => W a ∨ a ∈ wr) b db))
noncomputable def SrcOk (prog : Program) (w : World) (A : Around) (h₀ h : Heap) (W : Addr → Prop) (it : Value) (ds : List D) (en : Bool) : Prop :=
  ∃ I fp wr At, it = .ref I ∧ (∀ b ∈ wr, h₀.get? b = none) ∧ (∀ b ∈ fp, b ∈ wr ∨ ¬ W b) ∧ At 0 h ∧ Wk prog w A I fp wr ds en h W At
section
variable {prog : Program} {w : World} {nm fn : Nat → Str} {FT : List FE} {base : Heap} {N : Nat} {A : Around} {fr : List Env} {env : Env} {sc : Scope} {W : Bool → Addr → Prop} {ρ : Rho} {s : Shared}
@[elab_as_elim] theorem Wk.elim {I : Addr} {fp wr : List Addr} {ds : List D} {en : Bool} {h₀ : Heap} {W : Addr → Prop} {At : Nat → Heap → Prop} {m : Bool → Prop} (hw : Wk prog w A I fp wr ds en h₀ W At)
    (k1 : ∀ P, Walks prog w A I fp wr ds.length P At → (∀ i v d, P i v → ds[i]? = some d → R prog w h₀ (fun a => W a ∨ a ∈ wr) v d) → m false)
    (k2 : ∀ P Mid, WalksT prog w A I fp wr ds.length P At Mid → (∀ i vals d, P i vals → ds[i]? = some d → ∃ a b da db, vals = #[a, b] ∧ d = .tup [da, db] ∧ R prog w h₀ (fun a => W a ∨ a ∈ wr) a da ∧ R prog w h₀ (fun a => W a ∨ a ∈ wr) b db) → m true) : m en := by
  rcases hw.2 with ⟨rfl, P, a, b⟩ | ⟨rfl, P, Mid, a, b⟩
  · refine k1 P a fun i v d hv hd => ?_
    obtain ⟨d', e, r⟩ := b i v hv
    rw [hd] at e; cases e; exact r
  · refine k2 P Mid a fun i vals d hv hd => ?_
    obtain ⟨x, y, da, db, e1, e, r⟩ := b i vals hv
    rw [hd] at e
    exact ⟨x, y, da, db, e1, Option.some.inj e, r⟩
@[elab_as_elim] theorem Tg.oneE {m : Tg → Prop} {tg : Tg} (h : tg.two? = false) (k : ∀ i p, m (.one i p)) : m tg := by
  cases tg with
  | one => exact k _ _
  | two => exact absurd h Bool.noConfusion
@[elab_as_elim] theorem Tg.twoE {m : Tg → Prop} {tg : Tg} (h : tg.two? = true) (k : ∀ i p j q kk r, m (.two i p j q kk r)) : m tg := by
  cases tg with
  | two => exact k _ _ _ _ _ _
  | one => exact absurd h Bool.noConfusion
theorem rangeD_get (a b : Int) (i : Nat) (hi : i < (b - a).toNat) : (rangeD a b)[i]? = some (.int (a + i)) := by
  unfold rangeD; rw [List.getElem?_map, List.getElem?_range hi]; rfl
theorem rangeD_len (a b : Int) : (rangeD a b).length = (b - a).toNat := by unfold rangeD; rw [List.length_map, List.length_range]
theorem enumD_len : ∀ (ds : List D) (k : Nat), (enumD k ds).length = ds.length
  | [], _ => rfl
  | _ :: r, k => by show (enumD (k + 1) r).length + 1 = _; rw [enumD_len r]; rfl
theorem enumD_get : ∀ (ds : List D) (k i : Nat) (d : D), ds[i]? = some d → (enumD k ds)[i]? = some (.tup [.int ((k + i : Nat) : Int), d])
  | [], _, _, _, h => by simp at h
  | x :: r, k, 0, d, h => by simp at h; subst h; rfl
  | x :: r, k, i + 1, d, h => by
    have := enumD_get r (k + 1) i d (by simpa using h)
    show (enumD (k + 1) r)[i]? = _
    rw [this]
    congr 4
    all_goals omega
theorem srcOne {h : Heap} {I ax : Addr} {o : Obj} {Wt : Addr → Prop} {ds : List D} {P : Nat → Value → Prop} {St : Nat → Heap → Prop} {fp : List Addr} (hI : I = h.objs.size) (hfp : ∀ b ∈ fp, b = I ∨ (b = ax ∧ ¬ Wt b ∧ ∃ o, h.get? b = some o))
    (W0 : Walks prog w A I fp [I] ds.length P St) (st : St 0 (h.push o)) (hP : ∀ i v, P i v → ∃ d, ds[i]? = some d ∧ R prog w h Wt v d) (hal : ∀ i h, St i h → ∀ b ∈ fp, ∃ o, h.get? b = some o) : SrcOk prog w A h (h.push o) Wt (.ref I) ds false := by
  subst hI
  refine ⟨_, fp, _, St, rfl, fun b hb => ?_, fun b hb => ?_, st, hal, .inl ⟨rfl, P, W0, fun i v hv => ?_⟩⟩
  · rw [List.mem_singleton.mp hb]; exact push_none _
  · exact (hfp b hb).elim (fun q => .inl (List.mem_singleton.mpr q)) fun q => .inr q.2.1
  · obtain ⟨d, e1, e2⟩ := hP i v hv
    exact ⟨d, e1, e2.mono (fun _ _ _ e => Heap.get?_push_of_some _ e) fun a q => q.imp id fun q => by rw [List.mem_singleton.mp q]; exact push_none _⟩
theorem mem1 {α : Type} {a b : α} {P : α → Prop} (h : b ∈ [a]) (k : P a) : P b := (List.mem_singleton.mp h) ▸ k
theorem mem2 {α : Type} {a b c : α} {P : α → Prop} (h : c ∈ [a, b]) (k : P a) (k' : P b) : P c := (List.mem_cons.mp h).elim (fun q => q ▸ k) fun q => mem1 q k'
theorem mem3 {α : Type} {a b c d : α} {P : α → Prop} (h : d ∈ [a, b, c]) (k : P a) (k' : P b) (k'' : P c) : P d := (List.mem_cons.mp h).elim (fun q => q ▸ k) fun q => mem2 q k' k''
theorem srcTwo {h : Heap} {ax : Addr} {o : Obj} {Wt : Addr → Prop} {ds : List D} {P : Nat → Value → Prop} {St : Nat → Heap → Prop} (hW : ¬ Wt ax) (ho : ∃ o, h.get? ax = some o) (W0 : Walks prog w A h.objs.size [h.objs.size, ax] [h.objs.size] ds.length P St) (st : St 0 (h.push o))
    (hP : ∀ i v, P i v → ∃ d, ds[i]? = some d ∧ R prog w h Wt v d) (hal : ∀ i h', St i h' → (∃ o, h'.get? h.objs.size = some o) ∧ ∃ o, h'.get? ax = some o) : SrcOk prog w A h (h.push o) Wt (.ref h.objs.size) ds false :=
  srcOne (ax := ax) rfl (fun _ hb => mem2 (P := fun b => b = h.objs.size ∨ (b = ax ∧ ¬ Wt b ∧ ∃ o, h.get? b = some o)) hb (.inl rfl) (.inr ⟨rfl, hW, ho⟩)) W0 st hP fun i h' st b hb => mem2 (P := fun b => ∃ o, h'.get? b = some o) hb (hal i h' st).1 (hal i h' st).2
theorem iter_ok {d : D} {ds : List D} {x : Value} (e : itemsD d = some ds) {Wt : Addr → Prop} (r : R prog w s.heap Wt x d) (hh : A.handled = none) :
    Ok (model prog w) A (pyIter x) s (fun it h' => (∀ b o, s.heap.get? b = some o → h'.get? b = some o) ∧ SrcOk prog w A s.heap h' Wt it ds false) := by
  revert r
  refine I.itemsE e (fun ds hz r => ?_) (fun ds hz r => ?_) (fun y hz r => ?_)
  · refine R.lstE r fun a vs n hw hv rb => ?_
    have W0 := Walks.list (prog := prog) (w := w) (A := A) hh s.heap.objs.size a (Nat.ne_of_lt (Heap.lt_size hv)) vs.toArray
    rw [show vs.toArray.size = ds.length from List.size_toArray.trans rb.length] at W0
    exact wpAny_pyIter_list (isList_of_sq hv) (fin ⟨fun _ _ e => Heap.get?_push_of_some _ e, srcTwo hw ⟨_, hv⟩ W0 ⟨⟨_, Heap.get?_push_size _ rfl, rfl, rfl⟩, (isList_of_sq hv).push _⟩ (fun i v hv => rb.get' ((List.getElem?_toArray ..).symm.trans hv)) fun i h st => ⟨⟨_, st.1.choose_spec.1⟩, _, st.2.choose_spec.1⟩⟩)
  · refine R.tupE r fun a vs n hw hv rb => ?_
    have W0 := Walks.tuple (prog := prog) (w := w) (A := A) hh s.heap.objs.size a (Nat.ne_of_lt (Heap.lt_size hv)) vs.toArray
    rw [show vs.toArray.size = ds.length from List.size_toArray.trans rb.length] at W0
    exact wpAny_pyIter_tuple (isTup_of_sq hv) (fin ⟨fun _ _ e => Heap.get?_push_of_some _ e, srcTwo hw ⟨_, hv⟩ W0 ⟨⟨_, Heap.get?_push_size _ rfl, rfl, rfl⟩, ⟨_, Heap.get?_push_of_some _ hv, rfl, n, rfl⟩⟩ (fun i v hv => rb.get' ((List.getElem?_toArray ..).symm.trans hv)) fun i h st => ⟨⟨_, st.1.choose_spec.1⟩, _, st.2.choose_spec.1⟩⟩)
  · refine R.strE r fun t => ?_
    have hl : y.cps.size = (y.cps.toList.map fun c => D.str ⟨#[c]⟩).length := by rw [List.length_map, Array.length_toList]
    have hP : ∀ i v, SignAt y i v → ∃ d, (y.cps.toList.map fun c => D.str ⟨#[c]⟩)[i]? = some d ∧ R prog w s.heap Wt v d := fun i v hv => by
      obtain ⟨c, u, e1, rfl⟩ := hv
      exact ⟨.str ⟨#[c]⟩, by rw [List.getElem?_map, Array.getElem?_toList, e1]; rfl, .str _ _⟩
    have one : ∀ St : Nat → Heap → Prop, Walks prog w A s.heap.objs.size [s.heap.objs.size] [s.heap.objs.size] y.cps.size (SignAt y) St → ∀ o, St 0 (s.heap.push o) → (∀ i h, St i h → ∃ o, h.get? s.heap.objs.size = some o) → SrcOk prog w A s.heap (s.heap.push o) Wt (.ref s.heap.objs.size) (y.cps.toList.map fun c => D.str ⟨#[c]⟩) false := fun St W0 o st al =>
      srcOne (ax := 0) rfl (fun b hb => .inl (List.mem_singleton.mp hb)) (hl ▸ W0) st hP fun i h st b hb => mem1 (P := fun b => ∃ o, h.get? b = some o) hb (al i h st)
    cases ha : y.cps.all (· < 128)
    · exact wpAny_pyIter_wide ha (fin ⟨fun _ _ e => Heap.get?_push_of_some _ e, one _ (Walks.strWide hh s.heap.objs.size y t) _ ⟨_, Heap.get?_push_size _ rfl, rfl, rfl⟩ fun i h st => ⟨_, st.choose_spec.1⟩⟩)
    · exact wpAny_pyIter_ascii ha (fin ⟨fun _ _ e => Heap.get?_push_of_some _ e, one _ (Walks.strAscii hh s.heap.objs.size y t) _ ⟨_, Heap.get?_push_size _ rfl, rfl, rfl⟩ fun i h st => ⟨_, st.choose_spec.1⟩⟩)
theorem range_iter {r : Addr} {a b c : Int} {t u v : Tok} {ds : List D} {Wt : Addr → Prop} (hr : IsRange s.heap r a b c t u v) (hs : Builtin.Range.small a b c = true) (hl : (ds.length : Int) = Builtin.Range.rangeSize a b c)
    (hg : ∀ i : Nat, i < ds.length → ds[i]? = some (.int (a + i * c))) (hh : A.handled = none) :
    Ok (model prog w) A (pyIter (.ref r)) s (fun it h' => (∀ b o, s.heap.get? b = some o → h'.get? b = some o) ∧ SrcOk prog w A s.heap h' Wt it ds false) := by
  have W0 := (Walks.range (prog := prog) (w := w) (A := A) hh s.heap.objs.size a c ds.length).bound
  refine wpAny_pyIter_range hr hs (fin ⟨fun _ _ e => Heap.get?_push_of_some _ e, srcOne (ax := 0) rfl (fun b hb => .inl (List.mem_singleton.mp hb)) W0 ?_ (fun i v hv => ?_) (fun i h st b hb => mem1 (P := fun b => ∃ o, h.get? b = some o) hb ⟨_, st⟩)⟩)
  · show IsRangeIter _ _ (a + ((0 : Nat) : Int) * c) ((ds.length : Int) - ((0 : Nat) : Int)) c
    rw [show a + ((0 : Nat) : Int) * c = a from by simp, show (ds.length : Int) - ((0 : Nat) : Int) = Builtin.Range.rangeSize a b c from by rw [← hl]; simp]
    exact Heap.get?_push_size _ rfl
  · obtain ⟨hi, t, rfl⟩ := hv
    exact ⟨_, hg i hi, .int _ _⟩
theorem enum_ok {l : Addr} {us : List Value} {m : Nat} {ds : List D} {Wt : Addr → Prop} (hl : s.heap.get? l = some (sq "list" us m)) (hW : ¬ Wt l) (rb : RL prog w s.heap Wt us ds) (hh : A.handled = none) :
    Ok (model prog w) A (call (.type "enumerate") [.ref l]) s (fun x h' => ∀ tk, Ok (model prog w) A (pyIter x) (up s h' tk) (fun it h'' => (∀ b o, s.heap.get? b = some o → h''.get? b = some o) ∧ SrcOk prog w A s.heap h'' Wt it (enumD 0 ds) true)) := by
  refine call_enumerate_list (isList_of_sq hl) fun h' he hi hsz hk => fin fun tk => ?_
  have hlt : l < s.heap.objs.size := Heap.lt_size hl
  have W0 := WalksT.enumerate (prog := prog) (w := w) (A := A) hh (s.heap.objs.size + 1) s.heap.objs.size l (Nat.succ_ne_self _) (Nat.ne_of_lt (Nat.lt_succ_of_lt hlt)) (Nat.ne_of_lt hlt) us.toArray
  rw [show us.toArray.size = (enumD 0 ds).length from (List.size_toArray.trans rb.length).trans (enumD_len ds 0).symm] at W0
  have n1 : s.heap.get? (s.heap.objs.size + 1) = none := Heap.get?_none_of_le (Nat.le_succ _)
  have n2 := push_none s.heap
  refine wpAny_pyIter_enum he (fin ⟨hk, s.heap.objs.size + 1, [s.heap.objs.size + 1, s.heap.objs.size, l], [s.heap.objs.size + 1, s.heap.objs.size], _, rfl, fun b hb => mem2 (P := fun b => s.heap.get? b = none) hb n1 n2, fun b hb => ?_, ⟨⟨_, he⟩, hi, (isList_of_sq hl).at fun o e => hk _ _ e⟩,
    fun i h st b hb => mem3 (P := fun b => ∃ o, h.get? b = some o) hb ⟨_, st.1.choose_spec⟩ ⟨_, st.2.1.choose_spec.1⟩ ⟨_, st.2.2.choose_spec.1⟩, .inr ⟨rfl, _, _, W0, fun i vals hv => ?_⟩⟩)
  · exact mem3 (P := fun b => b ∈ [s.heap.objs.size + 1, s.heap.objs.size] ∨ ¬ Wt b) hb (.inl List.mem_cons_self) (.inl (List.mem_cons_of_mem _ List.mem_cons_self)) (.inr hW)
  · obtain ⟨t, x, hx, rfl⟩ := hv
    obtain ⟨d, e1, e2⟩ := rb.get' (k := i) (v := x) ((List.getElem?_toArray ..).symm.trans hx)
    exact ⟨_, _, .int i, d, rfl, by have := enumD_get ds 0 i d e1; rwa [Nat.zero_add] at this, .int _ _, e2.mono (fun b o _ e => hk b o e) fun a q => q.imp id fun q => mem2 (P := fun b => s.heap.get? b = none) q n1 n2⟩
theorem SrcOk.sub {h₀ h₁ h : Heap} {Wt : Addr → Prop} {it : Value} {ds : List D} {en : Bool} (x : SrcOk prog w A h₁ h Wt it ds en) (k : ∀ a, h₁.get? a = none → h₀.get? a = none) : SrcOk prog w A h₀ h Wt it ds en := by
  obtain ⟨I, fp, wr, At, e, a, b⟩ := x
  exact ⟨I, fp, wr, At, e, fun c hc => k c (a c hc), b⟩
theorem rangeSize_down {a b : Int} (h : b ≤ a) : Builtin.Range.rangeSize a b (-1) = a - b := by
  unfold Builtin.Range.rangeSize
  rw [if_neg (by decide)]
  split
  · rw [show (- -1 : Int) = 1 by decide, Int.ediv_one]; omega
  · omega
theorem small_down {a b : Int} (ha : a.natAbs < 1000) (hb : b.natAbs < 1000) (h : b ≤ a) : Builtin.Range.small a b (-1) = true := by
  unfold Builtin.Range.small
  rw [rangeSize_down h]
  simp only [Builtin.Range.rangeFitsLong, Bool.and_eq_true, Bool.or_eq_true, decide_eq_true_eq, beq_iff_eq]
  rw [if_neg (by decide)]
  simp only [decide_eq_true_eq, Bool.and_eq_true]
  omega
theorem small_up {a b : Int} (ha : a.natAbs < 1000) (hb : b.natAbs < 1000) : Builtin.Range.small a b 1 = true := small_one (by omega) (by omega) (by omega) (by omega)
theorem len_up (a b : Int) : ((rangeD a b).length : Int) = Builtin.Range.rangeSize a b 1 := by rw [rangeD_len, rangeSize_one]; split <;> omega
theorem get_up (a b : Int) (i : Nat) (hi : i < (rangeD a b).length) : (rangeD a b)[i]? = some (.int (a + i * 1)) := by rw [rangeD_len] at hi; rw [rangeD_get _ _ _ hi, Int.mul_one]
theorem range_made {h₀ h : Heap} {a b c : Int} {t u v : Tok} {tk₀ : Nat} {ds : List D} {S : Addr → Prop} {Wt : Addr → Prop} (k : Kp S h₀ h) (hs : Builtin.Range.small a b c = true) (hl : (ds.length : Int) = Builtin.Range.rangeSize a b c)
    (hg : ∀ i : Nat, i < ds.length → ds[i]? = some (.int (a + i * c))) (hh : A.handled = none) {P : Value → Heap → Prop} (hP : P = fun x h' => ∀ tk, tk₀ ≤ tk → Ok (model prog w) A (pyIter x) (up s h' tk) (fun it h'' => Kp S h₀ h'' ∧ SrcOk prog w A h₀ h'' Wt it ds false)) :
    P (.ref h.objs.size) (h.push { cls := .type "range", data := .fields #[.int a t, .int b u, .int c v] }) := by
  rw [hP]
  intro tk _
  refine (range_iter (s := up s (h.push _) tk) (Heap.get?_push_size _ rfl) hs hl hg hh).mono fun it h'' q => ⟨(k.trans (Kp.of fun _ _ e => Heap.get?_push_of_some _ e)).trans (Kp.of q.1), q.2.sub fun c e => k.alive ?_⟩
  cases q : h.get? c with
  | none => rfl
  | some o => rw [Heap.get?_push_of_some _ q] at e; cases e
@[elab_as_elim] theorem srcCases (nm fn : Nat → Str) (FT : List FE) {P : X → Prop} (h1 : ∀ fp as p, P (.bi .range fp as p)) (h2 : ∀ fp as p, P (.bi .enumerate fp as p)) (h3 : ∀ e, (∀ n sc tp ρ, evSrc nm fn FT (n + 1) sc e tp ρ = srcOf (ev nm fn FT n sc e tp ρ)) → P e) (e : X) : P e := by
  cases e with
  | bi b fp as p => cases b with
    | range => exact h1 _ _ _
    | enumerate => exact h2 _ _ _
    | _ => exact h3 _ fun _ _ _ _ => rfl
  | _ => exact h3 _ fun _ _ _ _ => rfl
variable (am : Am prog w nm fn FT base N) {n : Nat} (ih : Sound prog w nm fn FT base N n)
include am ih
theorem nameOk {tp : Bool} {b : Bi} {fp p : Pos} {as : XS} {vs : List V} (st : St (prog := prog) (w := w) (nm := nm) A fr base N env sc W ρ s) (hg : isG sc b.py = true) (h1 : evs nm fn FT n sc as tp ρ = some vs) (hpos : 0 < vs.length) {T : String} (hT : b.val = .type T) {P : Value → Heap → Prop}
    (h : ∀ us h' tk, s.toks ≤ tk → Kp (SS fr tp) s.heap h' → RVs prog w h' W us vs → Ok (model prog w) A (call (.type T) us) (up s h' tk) P) : Ok (model prog w) A (eval (.Call (.Name b.py fp) (as.py nm fn) [] p) env) s P := by
  show wpAny _ A (do callWith p (← eval (.Name b.py fp) env) [] (backTo p (starEach (as.py nm fn) env)) (backToKw p (keywordEach [] env))) _ _ s
  refine wpAny_bind ((am.hasBi b).ld st hg (fun tk hn st0 => ?_) (by cases b <;> rfl))
  rw [hT]
  exact PySem.callWith_type args_plain (args_ok ih h1 hpos st0 fun us h' tk' hn' k1 r1 _ => (h us h' tk' (Nat.le_trans hn hn') k1 r1).wp fun v h3 tk3 _ p3 => fin p3)
theorem sound_src : ∀ sc e tp ρ ds t en, evSrc nm fn FT (n + 1) sc e tp ρ = some (ds, t, en) → ∀ A fr env W s, St (prog := prog) (w := w) (nm := nm) A fr base N env sc W ρ s →
    Ok (model prog w) A (eval (e.py nm fn) env) s (fun x h' => ∀ tk, s.toks ≤ tk → Ok (model prog w) A (pyIter x) (up s h' tk) (fun it h'' => Kp (SS fr tp) s.heap h'' ∧ SrcOk prog w A s.heap h'' (W t) it ds en)) := by
  intro sc e tp ρ ds t en he A fr env W s st
  revert he
  refine srcCases nm fn FT (fun fp as p he => ?_) (fun fp as p he => ?_) (fun e hd he => ?_) e
  · refine I.bL he fun vs h1 he => ?_
    revert h1
    refine I.rangeE he (fun a ta hg ha h1 => ?_) (fun a ta b tb hg hab h1 => ?_) (fun a ta b tb tc hg ha hb hba h1 => ?_)
    · exact nameOk am ih (b := .range) st hg h1 (Nat.succ_pos _) rfl fun us h' tk hn k1 r1 => r1.one fun u r1 => R.intE r1 fun ta => call_range_1 (fin (range_made k1 (small_up (by decide) ha) (len_up _ _) (get_up _ _) st.cx.hd rfl))
    · exact nameOk am ih (b := .range) st hg h1 (Nat.succ_pos _) rfl fun us h' tk hn k1 r1 => r1.two fun u v r1 r2 => R.intE r1 fun ta => R.intE r2 fun tb => call_range_2 (fin (range_made k1 (small_up hab.1 hab.2) (len_up _ _) (get_up _ _) st.cx.hd rfl))
    · refine nameOk am ih (b := .range) st hg h1 (Nat.succ_pos _) rfl fun us h' tk hn k1 r1 => r1.three fun u v z r1 r2 r3 => R.intE r1 fun ta => R.intE r2 fun tb => R.intE r3 fun tc => call_range_3 (by decide) (fin (range_made k1 (small_down ha hb hba) ?_ (fun i hi => ?_) st.cx.hd rfl)) (Or.inl (PyProof.noPylong_of_log2 (by decide +kernel)))
      · rw [List.length_map, rangeD_len, rangeSize_down hba]; omega
      · rw [List.length_map, rangeD_len] at hi
        rw [List.getElem?_map, rangeD_get _ _ _ hi]
        show some (D.int _) = _
        congr 2; omega
  · refine I.bL he fun vs h1 he => ?_
    revert h1
    refine I.enumE he fun ds t hg h1 => ?_
    refine nameOk am ih (b := .enumerate) st hg h1 (Nat.succ_pos _) rfl fun us h' tk hn k1 r1 => r1.one fun u r1 => R.lstE r1 fun l us m hw hv rb => ?_
    exact (enum_ok (s := up s h' tk) hv hw rb st.cx.hd).mono fun x h'' q tk2 hn2 => (q tk2).mono fun it h3 q => ⟨k1.trans (Kp.of q.1), q.2.sub fun c e => k1.alive e⟩
  · rw [hd] at he
    refine I.srcE he fun d t' h1 hi e2 hat => ih.k h1 st fun x h' tk hn k1 r1 _ => fin fun tk hn => ?_
    have r2 : R prog w h' (W t) x d := hat.elim (fun ha => r1.of_atom ha) fun q => q ▸ r1
    rw [e2]
    exact (iter_ok (s := up s h' tk) hi r2 st.cx.hd).mono fun it h'' q => ⟨k1.trans (Kp.of q.1), q.2.sub fun a e => k1.alive e⟩
end
end Mine
end
section
set_option maxRecDepth 100000
open PySem PySem.W PyProof.Rows PySem.Calls
set_option autoImplicit false
namespace Mine
section
variable {prog : Program} {w : World} {nm fn : Nat → Str} {FT : List FE} {base : Heap} {N : Nat} {A : Around} {fr : List Env} {env : Env} {sc : Scope} {W : Bool → Addr → Prop} {ρ : Rho} {s : Shared}
theorem cell_ne_ns {h : Heap} {c L : Addr} {v : Option Value} {m : Str → Option Value} (hc : h.IsCell c v) (hn : h.Ns L m) : c ≠ L := by
  rintro rfl
  obtain ⟨o, ho, hd⟩ := hc
  obtain ⟨o', es, ep, ho', hd', _⟩ := hn
  rw [ho] at ho'; cases ho'
  rw [hd] at hd'; cases hd'
theorem Fm.alive' {h : Heap} {σ : Str → Option Value} (f : Fm env h σ) {a : Addr} (ha : Fm.all env a) : ∃ o, h.get? a = some o := by
  rcases ha with rfl | ⟨x, hk, hc⟩
  · obtain ⟨m, ⟨o, _, _, ho, _⟩, _⟩ := f.ns; exact ⟨o, ho⟩
  · obtain ⟨c, hc', o, ho, _⟩ := f.cell x hk
    rw [hc] at hc'; cases hc'; exact ⟨o, ho⟩
theorem Fm.alive {h : Heap} {σ : Str → Option Value} (f : Fm env h σ) {T : Str → Prop} {a : Addr} (ha : Fm.at env T a) : ∃ o, h.get? a = some o :=
  f.alive' (ha.imp id fun ⟨x, _, hk, hc⟩ => ⟨x, .inl hk, hc⟩)
theorem Fm.keep {h h' : Heap} {σ : Str → Option Value} (f : Fm env h σ) (k : ∀ a o, Fm.all env a → h.get? a = some o → h'.get? a = some o) : Fm env h' σ := by
  refine ⟨?_, fun x hx => ?_, f.inj⟩
  · obtain ⟨m, hn, hm⟩ := f.ns
    exact ⟨m, hn.at' fun o e => k _ o (.inl rfl) e, hm⟩
  · obtain ⟨c, hc, o, ho, hd⟩ := f.cell x hx
    exact ⟨c, hc, o, k c o (.inr ⟨x, hx, hc⟩) ho, hd⟩
theorem store_ok {x : Str} {v : Value} {σ : Str → Option Value} {T : Str → Prop} (hT : T x) (g : EnvG env) (f : Fm env s.heap σ) (hk : env.kindOf x = some .local ∨ env.kindOf x = some .cell) :
    Ok (model prog w) A (storeName env x v) s (fun _ h' => Fm env h' (fun y => if y = x then some v else σ y) ∧ ∀ b o, ¬ Fm.at env T b → s.heap.get? b = some o → h'.get? b = some o) := by
  obtain ⟨m, hn, hm⟩ := f.ns
  rcases hk with hk | hk
  · refine wpAny_storeName_local hk hn (fun h' hn' hs => ⟨_, _, rfl, ⟨⟨_, hn', fun y hy => ?_⟩, fun y hy => ?_, f.inj⟩, fun b o hb e => (hs.2 b fun q => hb (.inl q)).trans e⟩) (by rw [g.kind]; rfl)
    · split
      · rfl
      · exact hm y hy
    · obtain ⟨c, hc, hv⟩ := f.cell y hy
      have hne : y ≠ x := by rintro rfl; rcases hy with q | q <;> rw [hk] at q <;> cases q
      refine ⟨c, hc, ?_⟩
      rw [if_neg hne]
      obtain ⟨o, ho, hd⟩ := hv
      exact ⟨o, (hs.2 c (cell_ne_ns ⟨o, ho, hd⟩ hn)).trans ho, hd⟩
  · obtain ⟨c, hc, hv⟩ := f.cell x (.inl hk)
    refine wpAny_storeName_cell g.kind hk hc hv fun h' hc' hs => ⟨_, _, rfl, ⟨⟨m, hn.sameBut hs fun e => cell_ne_ns hv hn e.symm, fun y hy => ?_⟩, fun y hy => ?_, f.inj⟩, fun b o hb e => (hs.2 b fun q => hb (.inr ⟨x, hT, hk, q ▸ hc⟩)).trans e⟩
    · have hne : y ≠ x := by rintro rfl; rw [hk] at hy; cases hy
      rw [if_neg hne]; exact hm y hy
    · obtain ⟨c', hc2, hv2⟩ := f.cell y hy
      by_cases he : y = x
      · subst he
        rw [if_pos rfl]
        exact ⟨c, hc, hc'⟩
      · refine ⟨c', hc2, ?_⟩
        rw [if_neg he]
        obtain ⟨o, ho, hd⟩ := hv2
        refine ⟨o, (hs.2 c' fun q => he ?_).trans ho, hd⟩
        exact (f.inj x y c hk hy hc (q ▸ hc2)).symm
theorem putOk_kind {x : Str} (hs : env.scope = sc) (h : putOk sc x = true) : env.kindOf x = some .local ∨ env.kindOf x = some .cell := by
  unfold putOk at h
  rw [Bool.or_eq_true, beq_iff_eq, beq_iff_eq] at h
  unfold Env.kindOf; rw [hs]; exact h
theorem putOk_seen {x : Str} (hs : env.scope = sc) (h : putOk sc x = true) : seenK (env.kindOf x) := (putOk_kind hs h).elim .inl fun q => .inr (.inl q)
noncomputable def TgVal (prog : Program) (w : World) (h : Heap) (Wt : Addr → Prop) (v : Value) (d : D) : Tg → Prop
  | .one .. => R prog w h Wt v d
  | .two .. => ∃ T a b da db, v = .ref T ∧ d = .tup [da, db] ∧ h.IsTuple T #[a, b] ∧ R prog w h Wt a da ∧ R prog w h Wt b db
theorem EOk.keep {h h' : Heap} (e : EOk prog w nm env sc h W ρ) (kf : ∀ a o, Fm.all env a → h.get? a = some o → h'.get? a = some o) (kw : ∀ t b o, ¬ W t b → h.get? b = some o → h'.get? b = some o) : EOk prog w nm env sc h' W ρ :=
  ⟨e.g, e.sc, let ⟨σ, f, m⟩ := e.fm; ⟨σ, f.keep kf, fun i d t hi => let ⟨a, u, b, r⟩ := m i d t hi; ⟨a, u, b, r.mono (fun b o hb eb => kw t b o hb eb) fun a q => .inl q⟩⟩⟩
theorem bind1 {T : Str → Prop} {i : Nat} {d : D} {t : Bool} {v : Value} (inj : ∀ i j, nm i = nm j → i = j) (e : EOk prog w nm env sc s.heap W ρ) (pk : putOk sc (nm i) = true ∧ T (nm i)) (fmW : ∀ t a, Fm.at env T a → W t a) (hv : R prog w s.heap (W t) v d) :
    Ok (model prog w) A (storeName env (nm i) v) s (fun _ h' => EOk prog w nm env sc h' W (fun k => if k = i then some (itV d t) else ρ k) ∧ ∀ b o, ¬ Fm.at env T b → s.heap.get? b = some o → h'.get? b = some o) := by
  obtain ⟨σ, f, m⟩ := e.fm
  refine (store_ok (T := T) pk.2 e.g f (putOk_kind e.sc pk.1)).mono fun _ h' q => ⟨⟨e.g, e.sc, _, q.1, fun k d' t' hk => ?_⟩, q.2⟩
  have up : ∀ {t : Bool} {u : Value} {d : D}, R prog w s.heap (W t) u d → R prog w h' (W t) u d := fun {t u d} r => r.mono (fun b o hb eb => q.2 b o (fun z => hb (fmW t b z)) eb) fun a z => .inl z
  replace hk : (if k = i then some (itV d t) else ρ k) = some (d', t') := hk
  by_cases hki : k = i
  · rw [if_pos hki] at hk
    rw [hki]
    refine ⟨putOk_seen e.sc pk.1, v, if_pos rfl, ?_⟩
    have r := (up hv).itV
    rw [Option.some.inj hk] at r
    exact r
  · rw [if_neg hki] at hk
    obtain ⟨a1, u, a2, a3⟩ := m k d' t' hk
    exact ⟨a1, u, (if_neg fun z => hki (inj _ _ z)).trans a2, up a3⟩
theorem bind_ok {T : Str → Prop} {tg : Tg} {d : D} {t : Bool} {ρ' : Rho} {v : Value} (inj : ∀ i j, nm i = nm j → i = j) (hb : bindTg tg (itV d t) ρ = some ρ') (e : EOk prog w nm env sc s.heap W ρ)
    (hh : A.handled = none) (put : ∀ k ∈ tgVars tg, putOk sc (nm k) = true ∧ T (nm k)) (fmW : ∀ a, Fm.at env T a → W true a) (le : ∀ a, W true a → W false a)
    (hv : TgVal prog w s.heap (W t) v d tg) :
    Ok (model prog w) A (assign (tg.py nm) env v) s (fun _ h' => EOk prog w nm env sc h' W ρ' ∧ ∀ b o, ¬ Fm.at env T b → s.heap.get? b = some o → h'.get? b = some o) := by
  have fmW' : ∀ t a, Fm.at env T a → W t a := fun t a q => by
    cases t
    · exact le a (fmW a q)
    · exact fmW a q
  cases tg with
  | one i p => exact someE hb (wpAny_assign_Name (bind1 inj e (put i List.mem_cons_self) fmW' hv))
  | two i p j q k r =>
    obtain ⟨tp, a, b, da, db, rfl, rfl, hT, ra, rb⟩ := hv
    have hit : itV (.tup [da, db]) t = (.tup [da, db], t) := by unfold itV; cases t <;> rfl
    rw [hit] at hb
    refine someE hb (wpAny_assign_Tuple hh hT rfl rfl fun h₁ he₁ => ?_)
    have up₁ : ∀ c o, s.heap.get? c = some o → h₁.get? c = some o := fun c o e => he₁ c o (Nat.ne_of_lt (Heap.lt_size e)) e
    have up1 : ∀ {u : Value} {d : D}, R prog w s.heap (W t) u d → R prog w h₁ (W t) u d := fun r => r.mono (fun b o _ eb => up₁ b o eb) fun a z => .inl z
    show wpAny _ _ (assignInOrder [assign (.Name (nm i) p) env, assign (.Name (nm j) q) env] [a, b]) _ _ _
    refine assignInOrder_cons (wpAny_assign_Name ((bind1 (s := { s with heap := h₁ }) inj (e.keep (fun a o _ e => up₁ a o e) fun _ b o _ e => up₁ b o e) (put i List.mem_cons_self) fmW' (up1 ra)).wp2 fun _ h2 tk2 hn2 e2 k2 => ?_))
    exact assignInOrder_cons (wpAny_assign_Name ((bind1 (s := up s h2 tk2) inj e2 (put j (List.mem_cons_of_mem _ List.mem_cons_self)) fmW' ((up1 rb).mono (fun b o hb eb => k2 b o (fun z => hb (fmW' t b z)) eb) fun a z => .inl z)).wp2 fun _ h3 tk3 hn3 e3 k3 =>
      assignInOrder_nil ⟨_, _, rfl, e3, fun b o hb e => k3 b o hb (k2 b o hb (up₁ b o e))⟩))
end
end Mine
end
section
set_option maxRecDepth 100000
open PySem PySem.W PyProof.Rows PySem.Calls
set_option autoImplicit false
namespace Mine
section
variable {prog : Program} {w : World} {nm fn : Nat → Str} {FT : List FE} {base : Heap} {N : Nat} {A : Around} {fr : List Env} {env : Env} {sc : Scope} {W : Bool → Addr → Prop} {ρ : Rho} {s : Shared}
theorem self_ok {I : Addr} {fp wr : List Addr} {ds : List D} {en : Bool} {h₀ : Heap} {Wt : Addr → Prop} {At : Nat → Heap → Prop}
    (hw : Wk prog w A I fp wr ds en h₀ Wt At) {i : Nat} (hat : At i s.heap) {Q : Value → Shared → Prop} {E : Value → Shared → Prop} (h : Q (.ref I) s) : wpAny (model prog w) A (pyIter (.ref I)) Q E s :=
  hw.elim (fun _ W0 _ => W0.self i s _ _ hat h) fun _ _ W0 _ => W0.self i s _ _ hat h
theorem Wk.frame {I : Addr} {fp wr : List Addr} {ds : List D} {en : Bool} {h₀ : Heap} {Wt : Addr → Prop} {At : Nat → Heap → Prop}
    (hw : Wk prog w A I fp wr ds en h₀ Wt At) {i : Nat} {h h' : Heap} (hat : At i h) (hk : ∀ b ∈ fp, ∀ o, h.get? b = some o → h'.get? b = some o) : At i h' :=
  hw.elim (fun _ W0 _ => W0.frame i h h' hat hk) fun _ _ W0 _ => W0.frame i h h' hat hk
theorem Wk.sub {I : Addr} {fp wr : List Addr} {ds : List D} {en : Bool} {h₀ : Heap} {Wt : Addr → Prop} {At : Nat → Heap → Prop}
    (hw : Wk prog w A I fp wr ds en h₀ Wt At) : ∀ b ∈ wr, b ∈ fp :=
  hw.elim (fun _ W0 _ => W0.sub) fun _ _ W0 _ => W0.sub
theorem done_ok {I : Addr} {fp wr : List Addr} {ds : List D} {en : Bool} {h₀ : Heap} {Wt : Addr → Prop} {At : Nat → Heap → Prop}
    (hw : Wk prog w A I fp wr ds en h₀ Wt At) (hat : At ds.length s.heap) {Q : Option Value → Shared → Prop} {E : Value → Shared → Prop}
    (h : ∀ h' tk, s.toks ≤ tk → (∀ b o, b ∉ wr → s.heap.get? b = some o → h'.get? b = some o) → Q none (up s h' tk)) : wpAny (model prog w) A (pyNext (.ref I)) Q E s :=
  tokK (hw.elim (fun _ W0 _ => W0.done s _ _ hat fun h' tk hk hn => h h' tk hn hk) fun _ _ W0 _ => W0.done s _ _ hat fun h' tk hk hn => h h' tk hn hk)
theorem next_ok {T : Str → Prop} {I : Addr} {fp wr : List Addr} {ds : List D} {en : Bool} {h₀ : Heap} {Wt : Addr → Prop} {At : Nat → Heap → Prop} {i : Nat} {d : D} {tg : Tg} {ρ' : Rho} {t : Bool}
    (hw : Wk prog w A I fp wr ds en h₀ Wt At) (hat : At i s.heap) (hi : ds[i]? = some d) (inj : ∀ i j, nm i = nm j → i = j) (hb : bindTg tg (itV d t) ρ = some ρ') (e : EOk prog w nm env sc s.heap W ρ)
    (hh : A.handled = none) (put : ∀ k ∈ tgVars tg, putOk sc (nm k) = true ∧ T (nm k)) (fmW : ∀ a, Fm.at env T a → W true a) (le : ∀ a, W true a → W false a) (two : tg.two? = en)
    (wrW : ∀ a ∈ wr, W true a) (fpF : ∀ b ∈ fp, ¬ Fm.at env T b) (wrF : ∀ b ∈ wr, ¬ Fm.all env b) (hWt : ∀ a, W t a → Wt a ∨ a ∈ wr ∨ h₀.get? a = none)
    (kp : ∀ b o, ¬ W t b → h₀.get? b = some o → s.heap.get? b = some o) {E : Value → Shared → Prop} {QQ : Option Value → Shared → Prop} {Q : Unit → Shared → Prop}
    (hfin : ∀ v s₁, wpAny (model prog w) A (letOwnedTupleGo (tg.py nm) (.ref I) v) (fun _ s₂ => wpAny (model prog w) A (assign (tg.py nm) env v) Q E s₂) E s₁ → QQ (some v) s₁)
    (hQ : ∀ h' tk, s.toks ≤ tk → At (i + 1) h' → EOk prog w nm env sc h' W ρ' → (∀ b o, b ∉ wr → ¬ Fm.at env T b → s.heap.get? b = some o → h'.get? b = some o) → Q () (up s h' tk)) :
    wpAny (model prog w) A (pyNext (.ref I)) QQ E s := by
  have hlt : i < ds.length := (List.getElem?_eq_some_iff.mp hi).1
  have wrW' : ∀ t a, a ∈ wr → W t a := fun t a q => by
    cases t
    · exact le a (wrW a q)
    · exact wrW a q
  have old : ∀ b o, h₀.get? b = some o → ¬ (Wt b ∨ b ∈ wr) → ¬ W t b := fun b o e1 h q => (hWt b q).elim (fun z => h (.inl z)) fun z => z.elim (fun z => h (.inr z)) fun z => by rw [e1] at z; cases z
  have lift : ∀ {h' : Heap} {v : Value} {d : D}, (∀ b o, b ∉ wr → s.heap.get? b = some o → h'.get? b = some o) → R prog w h₀ (fun a => Wt a ∨ a ∈ wr) v d → R prog w h' (W t) v d := fun {h' v d} hk r =>
    r.mono (fun b o hb eb => hk b o (fun z => hb (.inr z)) (kp b o (old b o eb hb) eb)) fun a z => (hWt a z).elim (fun q => .inl (.inl q)) fun q => q.elim (fun q => .inl (.inr q)) .inr
  have fin : ∀ (h' : Heap) (tk : Nat) v, s.toks ≤ tk → At (i + 1) h' → (∀ b o, b ∉ wr → s.heap.get? b = some o → h'.get? b = some o) → TgVal prog w h' (W t) v d tg → wpAny (model prog w) A (assign (tg.py nm) env v) Q E (up s h' tk) := fun h' tk v hn hat' hk hv =>
    (bind_ok (T := T) (s := up s h' tk) (t := t) inj hb (e.keep (fun a o q ea => hk a o (fun z => wrF a z q) ea) fun t b o hb eb => hk b o (fun z => hb (wrW' t b z)) eb) hh put fmW le hv).wp2 fun _ h2 tk2 hn2 e2 k2 =>
      hQ h2 tk2 (Nat.le_trans hn hn2) (hw.frame hat' fun b hb o eb => k2 b o (fpF b hb) eb) e2 fun b o hb1 hb2 eb => k2 b o hb2 (hk b o hb1 eb)
  refine tokK ?_
  revert two fin
  refine hw.elim (fun P W0 hP two fin => ?_) (fun P Mid W0 hP two fin => ?_)
  · revert fin hfin
    exact Tg.oneE two fun k p hfin fin => W0.item i s _ _ hlt hat fun v h₁ tk₁ hPv hat₁ hk₁ hn => hfin v _ (wpAny_of_eq (a := ()) rfl (fin _ _ v hn hat₁ hk₁ (lift hk₁ (hP i v d hPv hi))))
  · revert fin hfin
    refine Tg.twoE two fun k p j q kk r hfin fin => W0.item i s _ _ hlt hat fun tp vals h₁ tk₁ hPv hTs hT hmid hk₁ hn => hfin (.ref tp) _ ?_
    obtain ⟨a, b, da, db, rfl, hd, ra, rb⟩ := hP i vals d hPv hi
    refine W0.go _ _ _ i tp _ _ _ hmid fun h₂ hat₂ hk₂ => ?_
    have hk12 : ∀ b o, b ∉ wr → s.heap.get? b = some o → h₂.get? b = some o := fun b o hb eb => hk₂ b o hb (hk₁ b o hb eb)
    have hT2 : h₂.IsTuple tp #[a, b] := by
      obtain ⟨o, ho, hc, n, hd⟩ := hT
      exact ⟨o, hk₂ tp o (W0.apart i tp _ hmid) ho, hc, n, hd⟩
    exact fin h₂ tk₁ _ hn hat₂ hk12 ⟨tp, a, b, da, db, rfl, hd, hT2, lift hk12 ra, lift hk12 rb⟩
end
end Mine
end
section
set_option maxRecDepth 100000
open PySem PySem.W PyProof.Rows PySem.Calls
set_option autoImplicit false
namespace Mine
theorem mem_lookup {α : Type} : ∀ {l : List (Str × α)} {x : Str} {v : α}, (l.map (·.1)).Nodup → (x, v) ∈ l → l.lookup x = some v
  | (n, u) :: r, x, v, hd, hm => by
    rw [List.map_cons, List.nodup_cons] at hd
    rw [List.lookup_cons]
    rcases List.mem_cons.mp hm with e | hm2
    · have e1 : x = n := congrArg Prod.fst e
      have e2 : v = u := congrArg Prod.snd e
      subst e1 e2; rw [beq_self_eq_true]
    · have hne : x ≠ n := by rintro rfl; exact hd.1 (List.mem_map.mpr ⟨_, hm2, rfl⟩)
      rw [beq_eq_false_iff_ne.mpr hne]
      exact mem_lookup hd.2 hm2
theorem lookup_mapk (f : Str → NameKind → NameKind) (x : Str) : ∀ l : List (Str × NameKind), (l.map fun p => (p.1, f p.1 p.2)).lookup x = (l.lookup x).map (f x)
  | [] => rfl
  | (n, k) :: r => by
    rw [List.map_cons, List.lookup_cons, List.lookup_cons]
    cases h : x == n with
    | true => rw [eq_of_beq h]; rfl
    | false => exact lookup_mapk f x r
theorem rel_lookup (sc sc' : Scope) (x : Str) : (rel sc sc').names.lookup x = (sc'.names.lookup x).map fun k => if (k == .free && sc.kind == .function && sc.names.lookup x == some .cell) then .cell else k := by
  unfold rel
  rw [← lookup_mapk (fun n k => if (k == .free && sc.kind == .function && sc.names.lookup n == some .cell) then .cell else k)]
  congr 1
  apply List.map_congr_left
  rintro ⟨n, k⟩ _
  dsimp only
  split <;> rfl
noncomputable def clos (env : Env) : List (Str × NameKind) → List (Str × Addr) → List (Str × Addr)
  | [], acc => acc
  | (n, k) :: r, acc => clos env r (if k == .free then (n, (env.cells.lookup n).getD 0) :: acc else acc)
theorem clos_lookup (env : Env) (x : Str) : ∀ (l : List (Str × NameKind)) (acc : List (Str × Addr)), (l.map (·.1)).Nodup →
    (clos env l acc).lookup x = if l.lookup x = some .free then some ((env.cells.lookup x).getD 0) else acc.lookup x
  | [], acc, _ => rfl
  | (n, k) :: r, acc, hd => by
    rw [List.map_cons, List.nodup_cons] at hd
    unfold clos
    rw [clos_lookup env x r _ hd.2, List.lookup_cons]
    cases h : x == n with
    | true =>
      have e := eq_of_beq h
      subst e
      have hr : r.lookup x = none := by
        cases q : r.lookup x with
        | none => rfl
        | some v => exact absurd (List.mem_map.mpr ⟨_, mem_of_lookup q, rfl⟩) hd.1
      rw [hr, if_neg (by simp)]
      dsimp only
      cases hk : k == NameKind.free with
      | true => rw [eq_of_beq hk]; simp [List.lookup_cons]
      | false =>
        have hk' : k ≠ .free := beq_eq_false_iff_ne.mp hk
        simp [hk']
    | false =>
      dsimp only
      split
      · rfl
      · split
        · rw [List.lookup_cons, h]
        · rfl
theorem closure_eq (env : Env) (f : Str × NameKind → List (Str × Addr) → Sem (ForInStep (List (Str × Addr))))
    (hf : ∀ n k cs, f (n, k) cs = if k == .free then (do let a ← cellOf env n; pure (.yield ((n, a) :: cs))) else pure (.yield cs)) :
    ∀ (l : List (Str × NameKind)) (acc : List (Str × Addr)), (∀ x ∈ l, x.2 = .free → (env.cells.lookup x.1).isSome = true) → forIn l acc f = pure (clos env l acc)
  | [], acc, _ => by rw [List.forIn_nil]; rfl
  | (n, k) :: r, acc, h => by
    rw [List.forIn_cons, hf]
    unfold clos
    have hr := fun x hx => h x (List.mem_cons_of_mem _ hx)
    cases hk : k == NameKind.free with
    | true =>
      obtain ⟨c, hc⟩ := Option.isSome_iff_exists.mp (h (n, k) List.mem_cons_self (eq_of_beq hk))
      have e : cellOf env n = pure c := by unfold cellOf; rw [hc]
      rw [if_pos rfl, if_pos rfl, e]
      simp only [pure_bind]
      rw [closure_eq env f hf r _ hr, hc]; rfl
    | false =>
      rw [if_neg (by simp), if_neg (by simp)]
      simp only [pure_bind]
      exact closure_eq env f hf r _ hr
theorem closureFor_eq {sc' : Scope} {env : Env} (h : ∀ x ∈ sc'.names, x.2 = .free → (env.cells.lookup x.1).isSome = true) : closureFor sc' env = pure (clos env sc'.names []) := by
  simp only [closureFor]
  rw [closure_eq env _ (fun n k cs => by cases hk : k == NameKind.free <;> simp [hk]) _ _ h]
  rfl
theorem cellsFrom_app : ∀ (l : List (Str × NameKind)) (n : Nat) (acc : List (Str × Addr)), cellsFrom n l acc = cellsFrom n l [] ++ acc
  | [], _, _ => rfl
  | (m, k) :: r, n, acc => by
    unfold cellsFrom
    split
    · rw [cellsFrom_app r (n + 1) ((m, n) :: acc), cellsFrom_app r (n + 1) [(m, n)], List.append_assoc]; rfl
    · exact cellsFrom_app r n acc
theorem cellsFrom_mem : ∀ (l : List (Str × NameKind)) (n : Nat) (x : Str) (c : Addr), (x, c) ∈ cellsFrom n l [] → (x, NameKind.cell) ∈ l
  | [], _, _, _, h => by simp [cellsFrom] at h
  | (m, k) :: r, n, x, c, h => by
    unfold cellsFrom at h
    split at h
    · rename_i hk
      rw [cellsFrom_app, List.mem_append] at h
      rcases h with h | h
      · exact List.mem_cons_of_mem _ (cellsFrom_mem r _ x c h)
      · rw [List.mem_singleton] at h; cases h; rw [eq_of_beq hk]; exact List.mem_cons_self
    · exact List.mem_cons_of_mem _ (cellsFrom_mem r n x c h)
theorem cellsFrom_has : ∀ (l : List (Str × NameKind)) (n : Nat) (x : Str), (x, NameKind.cell) ∈ l → ∃ c, (x, c) ∈ cellsFrom n l []
  | (m, k) :: r, n, x, h => by
    unfold cellsFrom
    rcases List.mem_cons.mp h with e | h
    · cases e
      rw [if_pos (beq_self_eq_true _), cellsFrom_app]
      exact ⟨n, List.mem_append_right _ (List.mem_singleton.mpr rfl)⟩
    · split
      · obtain ⟨c, hc⟩ := cellsFrom_has r (n + 1) x h
        rw [cellsFrom_app]
        exact ⟨c, List.mem_append_left _ hc⟩
      · exact cellsFrom_has r n x h
theorem lookup_has {α : Type} : ∀ {l : List (Str × α)} {x : Str} {v : α}, (x, v) ∈ l → ∃ u, l.lookup x = some u
  | (n, u) :: r, x, v, h => by
    rw [List.lookup_cons]
    cases hb : x == n with
    | true => exact ⟨u, rfl⟩
    | false =>
      rcases List.mem_cons.mp h with e | h
      · cases e; rw [beq_self_eq_true] at hb; cases hb
      · exact lookup_has h
theorem lookup_app {α : Type} : ∀ (l m : List (Str × α)) (x : Str), (l ++ m).lookup x = (l.lookup x).or (m.lookup x)
  | [], _, _ => rfl
  | (n, u) :: r, m, x => by
    rw [List.cons_append, List.lookup_cons, List.lookup_cons]
    cases x == n
    · exact lookup_app r m x
    · rfl
section
variable {prog : Program} {w : World} {nm fn : Nat → Str} {FT : List FE} {base : Heap} {N : Nat} {A : Around} {fr : List Env} {env : Env} {sc sc' : Scope} {W : Bool → Addr → Prop} {ρ : Rho} {s : Shared}
theorem newEnv_ok {M : Model} {E : Value → Shared → Prop} {cl : List (Str × Addr)} {Q : Env → Shared → Prop}
    (h : Q { scope := sc', locals := s.heap.objs.size, globals := env.globals, cells := cellsFrom (s.heap.objs.size + 1) sc'.names cl, qual := env.qual, func := none, code := env.code, frame := env.frame, builtins := env.builtins }
      { s with heap := pushCells (s.heap.push { cls := .type "dict", data := .dict #[] }) sc'.names }) : wpAny M A (newFunctionEnv sc' env.globals cl [] env.qual none .none (some env)) Q E s := by
  simp only [newFunctionEnv, Option.isSome_some, if_true]
  refine wpAny_bind (wpAny_alloc ?_)
  refine wpAny_bind (wpAny_layCells _ (fun name kind cells => by cases hkc : kind == NameKind.cell <;> simp [hkc]) _ _ _ _ ?_)
  rw [show ({ s with heap := s.heap.push { cls := .type "dict", data := .dict #[] } } : Shared).heap.objs.size = s.heap.objs.size + 1 from Heap.size_push ..]
  exact wpAny_bind (wpAny_pure (wpAny_pure h))
noncomputable def compEnv (env : Env) (sc' : Scope) (n : Nat) : Env :=
  { scope := relabel sc' env, locals := n, globals := env.globals, cells := cellsFrom (n + 1) sc'.names (clos env sc'.names []), qual := env.qual, func := none, code := env.code, frame := env.frame, builtins := env.builtins }
noncomputable def compHeap (h : Heap) (sc' : Scope) : Heap := pushCells (h.push { cls := .type "dict", data := .dict #[] }) sc'.names
theorem compHeap_keeps (h : Heap) (sc' : Scope) : ∀ b o, h.get? b = some o → (compHeap h sc').get? b = some o := fun b o e => pushCells_keeps _ _ b o (Heap.get?_push_of_some _ e)
theorem compOk_of (h : compOk sc sc' = true) : sc'.kind = .function ∧ (sc'.names.map (·.1)).Nodup ∧ ∀ x ∈ sc'.names, x.2 = .free → sc.names.lookup x.1 = some .cell ∨ sc.names.lookup x.1 = some .free := by
  unfold compOk at h
  rw [Bool.and_eq_true, Bool.and_eq_true, decide_eq_true_iff, List.all_eq_true, beq_iff_eq] at h
  refine ⟨h.1.1, h.1.2, fun x hx hf => ?_⟩
  have := h.2 x hx
  rw [hf] at this
  simpa using this
theorem compFree {σ : Str → Option Value} {h : Heap} (f : Fm env h σ) (hc : compOk env.scope sc' = true) : ∀ x ∈ sc'.names, x.2 = .free → (env.cells.lookup x.1).isSome = true := fun x hx hf => by
  obtain ⟨c, hc', _⟩ := f.cell x.1 ((compOk_of hc).2.2 x hx hf)
  rw [hc']; rfl
theorem comp_cells {h : Heap} {sc' : Scope} (env : Env) (hd : (sc'.names.map (·.1)).Nodup) :
    (∀ x, sc'.names.lookup x = some .cell → ∃ c, (compEnv env sc' h.objs.size).cells.lookup x = some c ∧ (compHeap h sc').IsCell c none ∧ h.objs.size < c) ∧
    (∀ x, sc'.names.lookup x = some .free → (compEnv env sc' h.objs.size).cells.lookup x = some ((env.cells.lookup x).getD 0)) ∧
    (∀ x y c, sc'.names.lookup x = some .cell → sc'.names.lookup y = some .cell → (compEnv env sc' h.objs.size).cells.lookup x = some c → (compEnv env sc' h.objs.size).cells.lookup y = some c → x = y) := by
  have ok := cellsFrom_ok sc'.names (h.push { cls := .type "dict", data := .dict #[] }) (h.objs.size + 1) [] ⟨fun _ _ hm => (nomatch hm), List.Pairwise.nil⟩ (by rw [Heap.size_push]; exact Nat.le_refl _)
  rw [Heap.size_push] at ok
  have own : ∀ x, sc'.names.lookup x = some .cell → ∃ c, (cellsFrom (h.objs.size + 1) sc'.names []).lookup x = some c := fun x hx => by
    obtain ⟨c, hc⟩ := cellsFrom_has _ (h.objs.size + 1) x (mem_of_lookup hx)
    exact lookup_has hc
  have lk : ∀ x, (compEnv env sc' h.objs.size).cells.lookup x = ((cellsFrom (h.objs.size + 1) sc'.names []).lookup x).or ((clos env sc'.names []).lookup x) := fun x => by
    show (cellsFrom _ _ _).lookup x = _
    rw [cellsFrom_app, lookup_app]
  refine ⟨fun x hx => ?_, fun x hx => ?_, fun x y c hx hy h1 h2 => ?_⟩
  · obtain ⟨c, hc⟩ := own x hx
    have := ok.empty x c (mem_of_lookup hc)
    exact ⟨c, by rw [lk, hc]; rfl, this.1, this.2⟩
  · have : (cellsFrom (h.objs.size + 1) sc'.names []).lookup x = none := by
      cases q : (cellsFrom (h.objs.size + 1) sc'.names []).lookup x with
      | none => rfl
      | some c =>
        have := mem_lookup hd (cellsFrom_mem _ _ _ _ (mem_of_lookup q))
        rw [hx] at this; cases this
    rw [lk, this, clos_lookup env x _ _ hd, if_pos hx]; rfl
  · obtain ⟨c1, q1⟩ := own x hx
    obtain ⟨c2, q2⟩ := own y hy
    rw [lk, q1] at h1
    rw [lk, q2] at h2
    cases h1; cases h2
    exact name_of_addr ok.apart (mem_of_lookup q1) (mem_of_lookup q2)
theorem comp_at {h : Heap} {T : Str → Prop} (hc : compOk env.scope sc' = true) (hT : ∀ x, T x → sc'.names.lookup x = some .local ∨ sc'.names.lookup x = some .cell) :
    ∀ a, Fm.at (compEnv env sc' h.objs.size) T a → h.get? a = none ∧ ∃ o, (compHeap h sc').get? a = some o := by
  obtain ⟨hk, hd, hf⟩ := compOk_of hc
  obtain ⟨c1, c2, c3⟩ := comp_cells (h := h) (sc' := sc') env hd
  rintro a (rfl | ⟨x, hx, hkx, hcx⟩)
  · exact ⟨push_none _, _, pushCells_keeps _ _ _ _ (Heap.get?_push_size _ rfl)⟩
  · have e : (compEnv env sc' h.objs.size).kindOf x = (rel env.scope sc').names.lookup x := rfl
    rw [e, rel_lookup] at hkx
    rcases hT x hx with q | q
    · rw [q] at hkx; simp at hkx
    · obtain ⟨c, hc', ⟨o, ho, _⟩, hlt⟩ := c1 x q
      rw [hcx] at hc'; cases hc'
      exact ⟨Heap.get?_none_of_le (Nat.le_of_lt hlt), o, ho⟩
theorem comp_fm_of {ce : Env} {lk : Str → Option NameKind} {n : Nat} {h₀ H : Heap} {σ : Str → Option Value} (f : Fm env h₀ σ) (keep : ∀ b o, h₀.get? b = some o → H.get? b = some o) (small : ∀ c v, h₀.IsCell c v → c < n)
    (ns : H.Ns ce.locals fun _ => none) (hl : ∀ x, ce.kindOf x = some .local → lk x ≠ some .free)
    (hcf : ∀ x, ce.kindOf x = some .cell ∨ ce.kindOf x = some .free → lk x = some .cell ∨ lk x = some .free ∧ (env.kindOf x = some .cell ∨ env.kindOf x = some .free))
    (hcc : ∀ x, ce.kindOf x = some .cell → lk x = some .free → env.kindOf x = some .cell)
    (c1 : ∀ x, lk x = some .cell → ∃ c, ce.cells.lookup x = some c ∧ H.IsCell c none ∧ n < c) (c2 : ∀ x c, lk x = some .free → env.cells.lookup x = some c → ce.cells.lookup x = some c)
    (c3 : ∀ x y c, lk x = some .cell → lk y = some .cell → ce.cells.lookup x = some c → ce.cells.lookup y = some c → x = y) : Fm ce H fun x => if lk x = some .free then σ x else none := by
  have frA : ∀ x, lk x = some .free → (env.kindOf x = some .cell ∨ env.kindOf x = some .free) → ∃ c, env.cells.lookup x = some c ∧ ce.cells.lookup x = some c ∧ h₀.IsCell c (σ x) := fun x q k => by
    obtain ⟨c, a, b⟩ := f.cell x k
    exact ⟨c, a, c2 x c q a, b⟩
  have clash : ∀ x y c, lk x = some .cell → lk y = some .free → (env.kindOf y = some .cell ∨ env.kindOf y = some .free) → ce.cells.lookup x = some c → ce.cells.lookup y = some c → False := fun x y c qx qy ky h1 h2 => by
    obtain ⟨c', a, b, lt⟩ := c1 x qx
    obtain ⟨d, _, a2, b2⟩ := frA y qy ky
    rw [Option.some.inj (h1.symm.trans a)] at h2
    rw [Option.some.inj (a2.symm.trans h2)] at b2
    exact Nat.lt_asymm lt (small _ _ b2)
  refine ⟨⟨_, ns, fun x hx => (if_neg (hl x hx)).symm⟩, fun x hx => ?_, fun x y c hx hy h1 h2 => ?_⟩
  · refine (hcf x hx).elim (fun q => ?_) fun q => ?_
    · obtain ⟨c, a, b, _⟩ := c1 x q
      exact ⟨c, a, by rw [if_neg (by rw [q]; exact fun z => nomatch z)]; exact b⟩
    · obtain ⟨c, _, a, b⟩ := frA x q.1 q.2
      exact ⟨c, a, by rw [if_pos q.1]; exact b.keeps keep⟩
  · refine (hcf x (.inl hx)).elim (fun qx => (hcf y hy).elim (fun qy => c3 x y c qx qy h1 h2) fun qy => (clash x y c qx qy.1 qy.2 h1 h2).elim) fun qx => (hcf y hy).elim (fun qy => (clash y x c qy qx.1 qx.2 h2 h1).elim) fun qy => ?_
    obtain ⟨cx, a, b, _⟩ := frA x qx.1 qx.2
    obtain ⟨cy, a2, b2, _⟩ := frA y qy.1 qy.2
    rw [Option.some.inj (b.symm.trans h1)] at a
    rw [Option.some.inj (b2.symm.trans h2)] at a2
    exact f.inj x y c (hcc x hx qx.1) qy.2 a a2
theorem comp_fm {h₀ h : Heap} (e : EOk prog w nm env sc h₀ W ρ) (keep : ∀ b o, h₀.get? b = some o → h.get? b = some o) (hc : compOk sc sc' = true) (W' : Bool → Addr → Prop) (hW : ∀ t a, W' t a → W t a ∨ h₀.get? a = none) :
    EOk prog w nm (compEnv env sc' h.objs.size) (rel sc sc') (compHeap h sc') W' (inner nm sc' ρ) := by
  have hsc := e.sc
  subst hsc
  obtain ⟨hk, hd, hf⟩ := compOk_of hc
  obtain ⟨c1, c2, c3⟩ := comp_cells (h := h) (sc' := sc') env hd
  obtain ⟨σ, f, m⟩ := e.fm
  generalize hce : compEnv env sc' h.objs.size = ce at c1 c2 c3 ⊢
  have kd : ∀ x, ce.kindOf x = (sc'.names.lookup x).map fun k => if (k == .free && env.scope.kind == .function && env.scope.names.lookup x == some .cell) then .cell else k := hce ▸ rel_lookup _ _
  have kf : ∀ x, sc'.names.lookup x = some .free → ce.kindOf x = some (if env.scope.kind == .function && env.kindOf x == some .cell then .cell else .free) := fun x q => by rw [kd, q]; rfl
  refine ⟨⟨hce ▸ hk, hce ▸ e.g.gl, hce ▸ e.g.bl⟩, hce ▸ rfl, _, comp_fm_of (lk := fun x => sc'.names.lookup x) f (fun b o q => compHeap_keeps _ _ b o (keep b o q)) (fun c v q => (q.keeps keep).lt) (hce ▸ (Heap.Ns.new h (.type "dict")).keeps (pushCells_keeps _ _)) (fun x hx q => ?_) (fun x hx => ?_) (fun x hx q => ?_) c1 (fun x c q a => by rw [c2 x q, a]; rfl) c3, fun i d t hi => ?_⟩
  · rw [kf x q] at hx
    split at hx <;> cases hx
  · cases q : sc'.names.lookup x with
    | none => rw [kd, q] at hx; exact hx.elim optE optE
    | some k =>
      cases k with
      | cell => exact .inl rfl
      | free => exact .inr ⟨rfl, hf (x, .free) (mem_of_lookup q) rfl⟩
      | _ => rw [kd, q] at hx; exact absurd hx (by simp)
  · rw [kf x q] at hx
    split at hx
    · rename_i z; exact eq_of_beq ((Bool.and_eq_true _ _).mp z).2
    · cases hx
  · unfold inner at hi
    by_cases q : (sc'.names.lookup (nm i) == some .free) = true
    · rw [if_pos q] at hi
      have q := eq_of_beq q
      obtain ⟨a, u, b, r⟩ := m i d t hi
      refine ⟨?_, u, (if_pos q).trans b, r.mono (fun b o _ e => compHeap_keeps _ _ b o (keep b o e)) fun a q => hW t a q⟩
      rw [kf _ q]
      split
      · exact .inr (.inl rfl)
      · exact .inr (.inr rfl)
    · rw [if_neg q] at hi; cases hi
end
end Mine
end
section
set_option maxRecDepth 100000
open PySem PySem.W PyProof.Rows PySem.Calls
set_option autoImplicit false
namespace Mine
section
variable {M : Model} {A : Around} {E : Value → Shared → Prop} {s : Shared} {env : Env}
theorem turn_last {elt tg iter : Expr} {ifs : List Expr} {gens : List Comprehension} {scope : Scope} {pos : Pos} {dp : Nat} {it acc : Value} {Q : Fin → Shared → Prop}
    (hg : gens[dp]? = some ⟨tg, iter, ifs, 0⟩) (hl : gens[dp + 1]? = none)
    (h : wpAny M A (pyNext it) (fun r s₁ => match r with
      | none => Q (.done .next) s₁
      | some v => wpAny M A (letOwnedTupleGo tg it v) (fun _ s₂ => wpAny M A (assign tg env v) (fun _ s₃ =>
          wpAny M A (forIn ifs true fun c r => if r = true then do let ok ← isTrue c env (eval c env); pure (ForInStep.yield ok) else pure (ForInStep.yield r)) (fun ok s₄ =>
            if ok = true then wpAny M A (eval elt env) (fun x s₅ => wpAny M A (call (.builtin "list.append") [acc, x]) (fun _ s₆ => Q (.again (.compLoop (.ListComp elt gens scope pos) dp it acc env)) s₆) E s₅) E s₄
            else Q (.again (.compLoop (.ListComp elt gens scope pos) dp it acc env)) s₄) E s₃) E s₂) E s₁) E s) :
    wpAny M A (compTurn (.ListComp elt gens scope pos) dp it acc env) Q E s := by
  unfold compTurn
  dsimp only
  rw [hg]
  dsimp only
  refine wpAny_bind (wpAny_standAt (wpAny_bind (wpAny_mono h (fun r s₁ h₁ => ?_) fun _ _ x => x)))
  cases r with
  | none => exact wpAny_pure h₁
  | some v =>
    refine wpAny_bind (wpAny_mono h₁ (fun _ s₂ h₂ => wpAny_bind (wpAny_mono h₂ (fun _ s₃ h₃ => ?_) fun _ _ x => x)) fun _ _ x => x)
    refine wpAny_bind (wpAny_mono h₃ (fun ok s₄ h₄ => ?_) fun _ _ x => x)
    cases ok with
    | false => exact wpAny_pure h₄
    | true =>
      rw [hl]
      exact wpAny_bind (wpAny_bind (wpAny_mono h₄ (fun x s₅ h₅ => wpAny_bind (wpAny_mono h₅ (fun _ s₆ h₆ => wpAny_pure (wpAny_pure h₆)) fun _ _ x => x)) fun _ _ x => x))
theorem turn_dict {kx vx tg iter : Expr} {ifs : List Expr} {scope : Scope} {pos : Pos} {it : Value} {D : Addr} {Q : Fin → Shared → Prop}
    (h : wpAny M A (pyNext it) (fun r s₁ => match r with
      | none => Q (.done .next) s₁
      | some v => wpAny M A (letOwnedTupleGo tg it v) (fun _ s₂ => wpAny M A (assign tg env v) (fun _ s₃ =>
          wpAny M A (forIn ifs true fun c r => if r = true then do let ok ← isTrue c env (eval c env); pure (ForInStep.yield ok) else pure (ForInStep.yield r)) (fun ok s₄ =>
            if ok = true then wpAny M A (eval kx env) (fun x s₅ => wpAny M A (eval vx env) (fun y s₆ => wpAny M A (dictSet D x y) (fun _ s₇ => Q (.again (.compLoop (.DictComp kx vx [⟨tg, iter, ifs, 0⟩] scope pos) 0 it (.ref D) env)) s₇) E s₆) E s₅) E s₄
            else Q (.again (.compLoop (.DictComp kx vx [⟨tg, iter, ifs, 0⟩] scope pos) 0 it (.ref D) env)) s₄) E s₃) E s₂) E s₁) E s) :
    wpAny M A (compTurn (.DictComp kx vx [⟨tg, iter, ifs, 0⟩] scope pos) 0 it (.ref D) env) Q E s := by
  unfold compTurn
  dsimp only
  refine wpAny_bind (wpAny_standAt (wpAny_bind (wpAny_mono h (fun r s₁ h₁ => ?_) fun _ _ x => x)))
  cases r with
  | none => exact wpAny_pure h₁
  | some v =>
    refine wpAny_bind (wpAny_mono h₁ (fun _ s₂ h₂ => wpAny_bind (wpAny_mono h₂ (fun _ s₃ h₃ => ?_) fun _ _ x => x)) fun _ _ x => x)
    refine wpAny_bind (wpAny_mono h₃ (fun ok s₄ h₄ => ?_) fun _ _ x => x)
    cases ok with
    | false => exact wpAny_pure h₄
    | true =>
      refine wpAny_bind (wpAny_bind (wpAny_mono h₄ (fun x s₅ h₅ => wpAny_bind (wpAny_holding (wpAny_mono h₅ (fun y s₆ h₆ => ?_) fun _ _ x => x))) fun _ _ x => x))
      exact wpAny_bind (wpAny_standAt (wpAny_holding (wpAny_mono h₆ (fun _ s₇ h₇ => wpAny_pure h₇) fun _ _ x => x)))
end
end Mine
end
section
set_option maxRecDepth 100000
open PySem PySem.W PyProof.Rows PySem.Calls
set_option autoImplicit false
namespace Mine
theorem collectM_some {β : Type} {f : D → Option (List β)} : ∀ {ds : List D} {vs : List β}, collectM f ds = some vs → ∃ L : List (List β), vs = L.flatten ∧ L.length = ds.length ∧ ∀ (i : Nat) (d : D), ds[i]? = some d → ∃ x : List β, f d = some x ∧ L[i]? = some x
  | [], vs, h => someE h ⟨[], rfl, rfl, fun i d hd => optE hd⟩
  | d :: r, vs, h => by
    unfold collectM at h
    cases h1 : f d with
    | none => rw [h1] at h; exact optE h
    | some x =>
    cases h2 : collectM f r with
    | none => rw [h1, h2] at h; exact optE h
    | some y =>
    rw [h1, h2] at h
    obtain ⟨L, rfl, hl, hL⟩ := collectM_some h2
    refine someE h ⟨x :: L, rfl, congrArg (· + 1) hl, fun i d' hd => ?_⟩
    cases i with
    | zero => exact someE hd ⟨x, h1, rfl⟩
    | succ i => exact hL i d' hd
section
variable {prog : Program} {w : World} {nm fn : Nat → Str} {FT : List FE} {base : Heap} {N : Nat} {A : Around} {fr : List Env} {env : Env} {sc : Scope} {W : Bool → Addr → Prop} {ρ : Rho} {s : Shared}
theorem RVs.mono {h h' : Heap} {W W' : Bool → Addr → Prop} {us : List Value} {vs : List V} (r : RVs prog w h W us vs) (hk : ∀ t b o, ¬ W t b → h.get? b = some o → h'.get? b = some o) (hW : ∀ t a, W' t a → W t a ∨ h.get? a = none) : RVs prog w h' W' us vs := by
  induction r with
  | nil => exact .nil
  | cons x _ ih => exact .cons (x.mono (fun b o hb e => hk _ b o hb e) fun a q => hW _ a q) ih
theorem RVs.append {h : Heap} {us us' : List Value} {vs vs' : List V} (r : RVs prog w h W us vs) (r' : RVs prog w h W us' vs') : RVs prog w h W (us ++ us') (vs ++ vs') := by
  induction r with
  | nil => exact r'
  | cons x _ ih => exact .cons x ih
structure Gd (A : Around) (fr : List Env) (base : Heap) (N : Nat) (env : Env) (W : Bool → Addr → Prop) (T : Str → Prop) (Z : Addr) (h₀ : Heap) : Prop where
  cx : Cx A fr base h₀ N
  frW : ∀ a, frA fr a → W true a
  le : ∀ a, W true a → W false a
  DW : W true Z
  fmW : ∀ a, Fm.at env T a → W true a
  DF : ¬ Fm.all env Z
structure Lp (prog : Program) (w : World) (A : Around) (env : Env) (W : Bool → Addr → Prop) (T : Str → Prop) (Z : Addr) (tn : Bool) (I : Addr) (fp wr : List Addr) (ds : List D) (en : Bool) (h₁ : Heap) (Wt : Addr → Prop) (At : Nat → Heap → Prop) : Prop where
  wk : Wk prog w A I fp wr ds en h₁ Wt At
  wrW : ∀ a ∈ wr, W true a
  Dfp : Z ∉ fp
  fpF : ∀ b ∈ fp, ¬ Fm.at env T b
  wrF : ∀ b ∈ wr, ¬ Fm.all env b
  hWt : ∀ a, W tn a → Wt a ∨ a ∈ wr ∨ h₁.get? a = none
noncomputable def AccL (prog : Program) (w : World) (Z : Addr) (h : Heap) (W : Bool → Addr → Prop) (vs : List V) : Prop := ∃ us m, h.get? Z = some (sq "list" us m) ∧ RVs prog w h W us vs
theorem Kp.andThen {S : Addr → Prop} {h₀ h h' : Heap} (k : Kp S h₀ h) (hk : ∀ b o, h₀.get? b ≠ none → h.get? b = some o → h'.get? b = some o) : Kp S h₀ h' :=
  ⟨fun b o hS e => hk b o (by rw [e]; simp) (k.out b o hS e), fun b o e => let ⟨sl, e'⟩ := k.all b o e; ⟨sl, hk b _ (by rw [e]; simp) e'⟩⟩
structure Tn (prog : Program) (w : World) (nm : Nat → Str) (fr : List Env) (tq : Bool) (env : Env) (sc : Scope) (W : Bool → Addr → Prop) (ρ : Rho) (h₀ h : Heap) : Prop where
  keep : Kp (SS fr tq) h₀ h
  e : EOk prog w nm env sc h W ρ
  al : ∀ a, W false a → ∃ o, h.get? a = some o
theorem Tn.st {tq : Bool} {T : Str → Prop} {Z : Addr} {h₀ : Heap} (g : Gd A fr base N env W T Z h₀) (x : Tn prog w nm fr tq env sc W ρ h₀ s.heap) (tk : 0 ≤ s.toks) : St (prog := prog) (w := w) (nm := nm) A fr base N env sc W ρ s :=
  ⟨g.cx.step x.keep, x.e, ⟨g.frW, g.le, x.al⟩, tk⟩
theorem tests_false (l : List Expr) {Q : Bool → Shared → Prop} {M : Model} {E : Value → Shared → Prop} (h : Q false s) :
    wpAny M A (forIn l false fun c r => if r = true then do let ok ← isTrue c env (eval c env); pure (ForInStep.yield ok) else pure (ForInStep.yield r)) Q E s := by
  induction l with
  | nil => rw [List.forIn_nil]; exact wpAny_pure h
  | cons c r ih => rw [List.forIn_cons]; exact wpAny_bind (by rw [if_neg (by simp)]; exact wpAny_pure ih)
variable (prog w nm fn FT base N) in
noncomputable def SoundTo (n : Nat) : Prop := ∀ m, m ≤ n → Sound prog w nm fn FT base N m
variable (am : Am prog w nm fn FT base N) {n : Nat} (ih : SoundTo prog w nm fn FT base N n)
include ih in
theorem sound_ifs : ∀ m, m ≤ n + 1 → ∀ sc es ρ b, evIfs nm fn FT m sc es ρ = some b → ∀ A fr env W s, St (prog := prog) (w := w) (nm := nm) A fr base N env sc W ρ s →
    Ok (model prog w) A (forIn (es.py nm fn) true fun c r => if r = true then do let ok ← isTrue c env (eval c env); pure (ForInStep.yield ok) else pure (ForInStep.yield r)) s (fun u h' => Kp (SS fr false) s.heap h' ∧ u = b) := by
  intro m
  induction m with
  | zero => intro _ sc es ρ b h; exact optE h
  | succ m ihm =>
    intro hm sc es ρ b h A fr env W s st
    cases es with
    | nil => exact someE h (Ok.pure ⟨Kp.refl, rfl⟩)
    | cons e r =>
      show Ok _ A (forIn (e.py nm fn :: r.py nm fn) true _) s _
      rw [List.forIn_cons]
      refine wpAny_bind ?_
      rw [if_pos rfl]
      refine I.bT h (fun h1 h => ?_) fun h1 h => ?_
      · exact wpAny_bind ((ih m (Nat.le_of_succ_le_succ hm)).kT h1 st fun h' tk hn k1 st1 => wpAny_pure ((ihm (Nat.le_of_succ_le hm) _ _ _ _ h A fr env W _ st1).wp2 fun u h'' tk' hn' k2 e2 => fin ⟨k1.trans k2, e2⟩))
      · exact someE h (wpAny_bind ((ih m (Nat.le_of_succ_le_succ hm)).kT h1 st fun h' tk hn k1 st1 => wpAny_pure (tests_false _ (fin ⟨k1, rfl⟩))))
theorem bindTg_off {tg : Tg} {v : V} {ρ' : Rho} (h : bindTg tg v ρ = some ρ') : ∀ k, k ∉ tgVars tg → ρ' k = ρ k := by
  cases tg with
  | one i p => exact someE h fun k hk => if_neg fun e => hk (by rw [e]; exact List.mem_cons_self)
  | two i p j q kk r =>
    cases v with | mk d t =>
    cases d with
    | tup ds =>
      cases ds with
      | nil => exact optE h
      | cons a ds =>
      cases ds with
      | nil => exact optE h
      | cons b ds =>
      cases ds with
      | nil => exact someE h fun k hk => (if_neg fun e => hk (by rw [e]; exact List.mem_cons_of_mem _ List.mem_cons_self)).trans (if_neg fun e => hk (by rw [e]; exact List.mem_cons_self))
      | cons _ _ => exact optE h
    | _ => exact optE h
theorem bindTg_ext {tg : Tg} {v : V} {ρ' : Rho} (h : bindTg tg v ρ = some ρ') (hd : ∀ k ∈ tgVars tg, ρ k = none) : ∀ k x, ρ k = some x → ρ' k = some x := fun k x hx =>
  (bindTg_off h k fun q => by rw [hd k q] at hx; cases hx).trans hx
theorem bindTg_dom {tg : Tg} {v : V} {ρ' : Rho} (h : bindTg tg v ρ = some ρ') {k : Nat} {x : V} (hx : ρ' k = some x) : k ∈ tgVars tg ∨ ρ k = some x :=
  Decidable.byCases .inl fun q => .inr ((bindTg_off h k q).symm.trans hx)
theorem EOk.less {h : Heap} {ρ' : Rho} (e : EOk prog w nm env sc h W ρ') (hx : ∀ k x, ρ k = some x → ρ' k = some x) : EOk prog w nm env sc h W ρ :=
  ⟨e.g, e.sc, let ⟨σ, f, m⟩ := e.fm; ⟨σ, f, fun i d t hi => m i d t (hx i _ hi)⟩⟩
end
end Mine
end
section
set_option maxRecDepth 100000
open PySem PySem.W PyProof.Rows PySem.Calls
set_option autoImplicit false
namespace Mine
section
variable {prog : Program} {w : World} {nm fn : Nat → Str} {FT : List FE} {base : Heap} {N : Nat} {A : Around} {fr : List Env} {env : Env} {sc : Scope} {W : Bool → Addr → Prop} {ρ : Rho} {s : Shared}
variable (am : Am prog w nm fn FT base N) {n : Nat} (ih : SoundTo prog w nm fn FT base N n)
include am ih
omit am ih in
theorem down1 {n i : Nat} (h : i < n) : n + 1 - (i + 1) < n + 1 - i := Nat.sub_lt_sub_left (Nat.lt_succ_of_lt h) (Nat.lt_succ_self i)
theorem loop_turn {tq : Bool} {I Z : Addr} {fp wr : List Addr} {ds : List D} {en tn : Bool} {h₀ h₁ : Heap} {Wt : Addr → Prop} {At : Nat → Heap → Prop} {T : Str → Prop} {tg : Tg} {ifs : XS} {k : Nat}
    {em : Rho → Option (List V)} {vs' y : List V} {len i : Nat} {d : D} {Ac : Heap → List V → Prop} {Bd : (Shared → Prop) → (Value → Shared → Prop) → Shared → Prop}
    (hk : k ≤ n + 1) (hy : (match bindTg tg (itV d tn) ρ with
      | some r' => match evIfs nm fn FT k sc ifs r' with
        | some true => em r'
        | some false => some []
        | none => none
      | none => none) = some y) (hd : ds[i]? = some d)
    (body : ∀ ρ' x, bindTg tg (itV d tn) ρ = some ρ' → em ρ' = some x → ∀ (s₄ : Shared) vs', (vs' ++ x).length ≤ len → Tn prog w nm fr tq env sc W ρ' h₀ s₄.heap → 0 ≤ s₄.toks → Ac s₄.heap vs' → ∀ Qc E,
      (∀ h₅ tk, s₄.toks ≤ tk → Kp (SS fr tq) h₀ h₅ → EOk prog w nm env sc h₅ W ρ → Ac h₅ (vs' ++ x) → (∀ b o, b ≠ Z → ¬ Fm.at env T b → s₄.heap.get? b = some o → h₅.get? b = some o) → Qc (up s₄ h₅ tk)) → Bd Qc E s₄)
    (hlen : (vs' ++ y).length ≤ len)
    (acStep : ∀ h h' vs, Ac h vs → (∀ o, h.get? Z = some o → h'.get? Z = some o) → (∀ t b o, ¬ W t b → h.get? b = some o → h'.get? b = some o) → Ac h' vs)
    (acZ : ∀ h vs, Ac h vs → ∃ o, h.get? Z = some o)
    (g : Gd A fr base N env W T Z h₀) (lp : Lp prog w A env W T Z tn I fp wr ds en h₁ Wt At) (put : ∀ i ∈ tgVars tg, putOk sc (nm i) = true ∧ T (nm i)) (dis : ∀ i ∈ tgVars tg, ρ i = none) (two : tg.two? = en)
    (hat : At i s.heap) (kp : ∀ b o, ¬ W tn b → h₁.get? b = some o → s.heap.get? b = some o) (x : Tn prog w nm fr tq env sc W ρ h₀ s.heap) (ac : Ac s.heap vs')
    (new : ∀ a, (a = Z ∨ a ∈ wr ∨ Fm.at env T a) → h₀.get? a = none) (offW : ∀ {t : Bool} {b : Addr}, ¬ W t b → b ≠ Z ∧ b ∉ wr ∧ ¬ Fm.at env T b) (Zwr : Z ∉ wr) (ZT : ¬ Fm.at env T Z)
    {QN QL : Shared → Prop} {E : Value → Shared → Prop}
    (hQ : ∀ h tk, s.toks ≤ tk → At (i + 1) h → Tn prog w nm fr tq env sc W ρ h₀ h → Ac h (vs' ++ y) → (∀ b o, b ≠ Z → b ∉ wr → ¬ Fm.at env T b → s.heap.get? b = some o → h.get? b = some o) → QL (up s h tk)) :
    wpAny (model prog w) A (pyNext (.ref I)) (fun r s₁ => match r with
      | none => QN s₁
      | some v => wpAny (model prog w) A (letOwnedTupleGo (tg.py nm) (.ref I) v) (fun _ s₂ => wpAny (model prog w) A (assign (tg.py nm) env v) (fun _ s₃ =>
          wpAny (model prog w) A (forIn (ifs.py nm fn) true fun c r => if r = true then do let ok ← isTrue c env (eval c env); pure (ForInStep.yield ok) else pure (ForInStep.yield r)) (fun ok s₄ =>
            if ok = true then Bd (fun s₆ => QL s₆) E s₄ else QL s₄) E s₃) E s₂) E s₁) E s := by
  refine Mine.I.bR hy fun ρ' hb hy => ?_
  refine next_ok (T := T) lp.wk hat hd am.inj hb x.e g.cx.hd put g.fmW g.le two lp.wrW lp.fpF lp.wrF lp.hWt kp (fun v s₁ q => q) fun h₃ tk₃ hn₃ hat₃ e₃ k₃ => ?_
  have al₃ : ∀ a, W false a → ∃ o, h₃.get? a = some o := fun a q => by
    by_cases q1 : a ∈ wr
    · exact lp.wk.1 _ _ hat₃ a (lp.wk.sub a q1)
    · by_cases q2 : Fm.at env T a
      · obtain ⟨σ, f, _⟩ := e₃.fm; exact f.alive q2
      · obtain ⟨o, ho⟩ := x.al a q; exact ⟨o, k₃ a o q1 q2 ho⟩
  have keep₃ : Kp (SS fr tq) h₀ h₃ := x.keep.andThen fun b o e0 e => k₃ b o (fun q => e0 (new b (.inr (.inl q)))) (fun q => e0 (new b (.inr (.inr q)))) e
  have st₃ := Tn.st (s := up s h₃ tk₃) g (Tn.mk keep₃ e₃ al₃) (Nat.zero_le _)
  have ac₃ : Ac h₃ vs' := acStep _ _ _ ac (fun o e => k₃ Z o Zwr ZT e) fun t b o hw e => k₃ b o (offW hw).2.1 (offW hw).2.2 e
  refine Mine.I.bT hy (fun hif hy => ?_) fun hif hy => ?_
  · refine (sound_ifs ih k hk _ _ _ _ hif A fr env W _ st₃).wp2 fun ok h₄ tk₄ hn₄ k₄ e4 => ?_
    have k₄ : ∀ b o, h₃.get? b = some o → h₄.get? b = some o := fun b o e => k₄.out b o (fun q => Bool.false_ne_true q.1) e
    rw [e4, if_pos rfl]
    have st₄ := st₃.step (tp := false) hn₄ (Kp.of k₄)
    refine body ρ' y hb hy (up s h₄ tk₄) _ hlen ⟨keep₃.andThen fun b o _ e => k₄ b o e, st₄.e, st₄.wo.al⟩ st₄.tk (acStep _ _ _ ac₃ (fun o e => k₄ Z o e) fun t b o _ e => k₄ b o e) _ _ fun h₅ tk₅ hn₅ keep₅ e₅ ac₅ k₅ => ?_
    refine hQ h₅ tk₅ (Nat.le_trans hn₃ (Nat.le_trans hn₄ hn₅)) (lp.wk.frame hat₃ fun b hb o e => k₅ b o (fun q => lp.Dfp (q ▸ hb)) (lp.fpF b hb) (k₄ b o e)) ⟨keep₅, e₅, fun a q => ?_⟩ ac₅ fun b o q1 q2 q3 e => k₅ b o q1 q3 (k₄ b o (k₃ b o q2 q3 e))
    by_cases q0 : a = Z
    · rw [q0]; exact acZ _ _ ac₅
    · by_cases q2 : Fm.at env T a
      · obtain ⟨σ, f, _⟩ := e₅.fm; exact f.alive q2
      · obtain ⟨o, ho⟩ := st₄.wo.al a q; exact ⟨o, k₅ a o q0 q2 ho⟩
  · rw [← Option.some.inj hy, List.append_nil] at hQ
    refine (sound_ifs ih k hk _ _ _ _ hif A fr env W _ st₃).wp2 fun ok h₄ tk₄ hn₄ k₄ e4 => ?_
    have k₄ : ∀ b o, h₃.get? b = some o → h₄.get? b = some o := fun b o e => k₄.out b o (fun q => Bool.false_ne_true q.1) e
    rw [e4, if_neg Bool.false_ne_true]
    have st₄ := st₃.step (tp := false) hn₄ (Kp.of k₄)
    exact hQ h₄ tk₄ (Nat.le_trans hn₃ hn₄) (lp.wk.frame hat₃ fun b hb o e => k₄ b o e) ⟨keep₃.andThen fun b o _ e => k₄ b o e, (st₄.e).less (bindTg_ext hb dis), st₄.wo.al⟩ (acStep _ _ _ ac₃ (fun o e => k₄ Z o e) fun t b o _ e => k₄ b o e) fun b o q1 q2 q3 e => k₄ b o (k₃ b o q2 q3 e)
theorem loop_gen {tq : Bool} {X : Expr} {dp : Nat} {acc : Value} {I Z : Addr} {fp wr : List Addr} {ds : List D} {en tn : Bool} {h₀ h₁ : Heap} {Wt : Addr → Prop} {At : Nat → Heap → Prop} {T : Str → Prop} {tg : Tg} {ifs : XS} {k : Nat}
    {em : Rho → Option (List V)} {vs vs₀ : List V} {Ac : Heap → List V → Prop} {R : Result → Shared → Prop} {Bd : (Shared → Prop) → (Value → Shared → Prop) → Shared → Prop}
    (quiet : (Code.compLoop X dp (.ref I) acc env).quiet = true) (hden : (model prog w).den (.compLoop X dp (.ref I) acc env) = (compTurn X dp (.ref I) acc env).onRaise (fun x => do noteFrame x env; theTreesLotGoes x))
    (hund : A.under (.compLoop X dp (.ref I) acc env) = A)
    (turnH : ∀ (s : Shared) (Q : Fin → Shared → Prop) (E : Value → Shared → Prop), wpAny (model prog w) A (pyNext (.ref I)) (fun r s₁ => match r with
      | none => Q (.done .next) s₁
      | some v => wpAny (model prog w) A (letOwnedTupleGo (tg.py nm) (.ref I) v) (fun _ s₂ => wpAny (model prog w) A (assign (tg.py nm) env v) (fun _ s₃ =>
          wpAny (model prog w) A (forIn (ifs.py nm fn) true fun c r => if r = true then do let ok ← isTrue c env (eval c env); pure (ForInStep.yield ok) else pure (ForInStep.yield r)) (fun ok s₄ =>
            if ok = true then Bd (fun s₆ => Q (.again (.compLoop X dp (.ref I) acc env)) s₆) E s₄ else Q (.again (.compLoop X dp (.ref I) acc env)) s₄) E s₃) E s₂) E s₁) E s →
      wpAny (model prog w) A (compTurn X dp (.ref I) acc env) Q E s)
    (hk : k ≤ n + 1) (hcol : collectM (fun d => match bindTg tg (itV d tn) ρ with
      | some r' => match evIfs nm fn FT k sc ifs r' with
        | some true => em r'
        | some false => some []
        | none => none
      | none => none) ds = some vs)
    (body : ∀ d ρ' x, bindTg tg (itV d tn) ρ = some ρ' → em ρ' = some x → ∀ (s₄ : Shared) vs', (vs' ++ x).length ≤ (vs₀ ++ vs).length → Tn prog w nm fr tq env sc W ρ' h₀ s₄.heap → 0 ≤ s₄.toks → Ac s₄.heap vs' → ∀ Qc E,
      (∀ h₅ tk, s₄.toks ≤ tk → Kp (SS fr tq) h₀ h₅ → EOk prog w nm env sc h₅ W ρ → Ac h₅ (vs' ++ x) → (∀ b o, b ≠ Z → ¬ Fm.at env T b → s₄.heap.get? b = some o → h₅.get? b = some o) → Qc (up s₄ h₅ tk)) → Bd Qc E s₄)
    (acStep : ∀ h h' vs, Ac h vs → (∀ o, h.get? Z = some o → h'.get? Z = some o) → (∀ t b o, ¬ W t b → h.get? b = some o → h'.get? b = some o) → Ac h' vs)
    (acZ : ∀ h vs, Ac h vs → ∃ o, h.get? Z = some o)
    (g : Gd A fr base N env W T Z h₀) (lp : Lp prog w A env W T Z tn I fp wr ds en h₁ Wt At) (put : ∀ i ∈ tgVars tg, putOk sc (nm i) = true ∧ T (nm i)) (dis : ∀ i ∈ tgVars tg, ρ i = none) (two : tg.two? = en)
    (hat : At 0 s.heap) (kp : ∀ b o, ¬ W tn b → h₁.get? b = some o → s.heap.get? b = some o) (x : Tn prog w nm fr tq env sc W ρ h₀ s.heap) (ac : Ac s.heap vs₀) (htk : 0 ≤ s.toks)
    (new : ∀ a, (a = Z ∨ a ∈ wr ∨ Fm.at env T a) → h₀.get? a = none)
    (hR : ∀ h' tk, s.toks ≤ tk → Kp (SS fr tq) h₀ h' → EOk prog w nm env sc h' W ρ → Ac h' (vs₀ ++ vs) → (∀ b o, b ≠ Z → b ∉ wr → ¬ Fm.at env T b → s.heap.get? b = some o → h'.get? b = some o) → R (.ok .next) (up s h' tk)) :
    codeAny (model prog w) A (.compLoop X dp (.ref I) acc env) R s := by
  obtain ⟨L, rfl, hLl, hL⟩ := collectM_some hcol
  have Zwr : Z ∉ wr := fun q => lp.Dfp (lp.wk.sub _ q)
  have all2 : ∀ {t : Bool} {a : Addr}, W true a → W t a := fun {t a} q => by
    cases t
    · exact g.le a q
    · exact q
  have offW : ∀ {t : Bool} {b : Addr}, ¬ W t b → b ≠ Z ∧ b ∉ wr ∧ ¬ Fm.at env T b := fun {t b} h => ⟨fun q => h (q ▸ all2 g.DW), fun q => h (all2 (lp.wrW b q)), fun q => h (all2 (g.fmW b q))⟩
  have atAll : ∀ a, Fm.at env T a → Fm.all env a := fun a q => q.imp id fun ⟨x, _, h1, h2⟩ => ⟨x, .inl h1, h2⟩
  have ZT : ¬ Fm.at env T Z := fun q => g.DF (atAll Z q)
  refine codeAny_loop quiet (LInv s ds.length fun i h => G4 (At i h) (Tn prog w nm fr tq env sc W ρ h₀ h) (Ac h (vs₀ ++ (L.take i).flatten)) (∀ b o, b ≠ Z → b ∉ wr → ¬ Fm.at env T b → s.heap.get? b = some o → h.get? b = some o)) ?_ (ds.length + 1)
    (.mk 0 s.heap s.toks (Nat.le_refl _) (Nat.zero_le _) ⟨hat, x, by rw [List.take_zero, List.flatten_nil, List.append_nil]; exact ac, fun _ _ _ _ _ e => e⟩)
  rintro m s' ⟨i, h, tk, htk', hi, hat, x, ac, hold⟩
  rw [hden, hund]
  refine wpAny_noted (turnH _ _ _ ?_)
  by_cases hlt : i < ds.length
  · obtain ⟨d, hd⟩ : ∃ d, ds[i]? = some d := ⟨_, List.getElem?_eq_getElem hlt⟩
    obtain ⟨y, hy, hLi⟩ := hL i d hd
    have hLt : (L.take (i + 1)).flatten = (L.take i).flatten ++ y := by
      rw [List.take_add_one, hLi, List.flatten_append]; exact congrArg _ (List.append_nil _)
    have hlen : ((vs₀ ++ (L.take i).flatten) ++ y).length ≤ (vs₀ ++ L.flatten).length := by
      rw [List.append_assoc, ← hLt]
      have : L.flatten = (L.take (i + 1)).flatten ++ (L.drop (i + 1)).flatten := by rw [← List.flatten_append, List.take_append_drop]
      rw [this, List.length_append, List.length_append, List.length_append]; exact Nat.add_le_add_left (Nat.le_add_right _ _) _
    exact loop_turn am ih (s := up s h tk) hk hy hd (body d) hlen acStep acZ g lp put dis two hat (fun b o hw e => hold b o (offW hw).1 (offW hw).2.1 (offW hw).2.2 (kp b o hw e)) x ac new offW Zwr ZT fun h' tk' hn' hat' x' ac' hold' =>
      ⟨rfl, ds.length + 1 - (i + 1), down1 hlt, .mk (i + 1) h' tk' (Nat.le_trans htk' hn') hlt ⟨hat', x', by rw [hLt, ← List.append_assoc]; exact ac', fun b o q1 q2 q3 e => hold' b o q1 q2 q3 (hold b o q1 q2 q3 e)⟩⟩
  · have hin : i = ds.length := Nat.le_antisymm hi (Nat.not_lt.mp hlt)
    rw [hin] at hat
    refine done_ok (s := up s h tk) lp.wk hat fun h' tk' hn hk' => ?_
    refine hR h' tk' (Nat.le_trans htk' hn) (x.keep.andThen fun b o e0 e => hk' b o (fun q => e0 (new b (.inr (.inl q)))) e) (x.e.keep (fun a o q e => hk' a o (fun z => lp.wrF a z q) e) fun t b o hw e => hk' b o (offW hw).2.1 e) ?_ fun b o q1 q2 q3 e => hk' b o q2 (hold b o q1 q2 q3 e)
    rw [hin, show L.take ds.length = L by rw [← hLl, List.take_length]] at ac
    exact acStep _ _ _ ac (fun o e => hk' Z o Zwr e) fun t b o hw e => hk' b o (offW hw).2.1 e
end
end Mine
end
section
set_option maxRecDepth 100000
open PySem PySem.W PyProof.Rows PySem.Calls
set_option autoImplicit false
namespace Mine
section
variable {prog : Program} {w : World} {nm fn : Nat → Str} {FT : List FE} {base : Heap} {N : Nat} {A : Around} {fr : List Env} {env : Env} {sc : Scope} {W : Bool → Addr → Prop} {ρ : Rho} {s : Shared}
theorem compStart_any {X : Expr} {gens : List Comprehension} {dp : Nat} {it acc : Value} {R : Result → Shared → Prop} {tg iter : Expr} {ifs : List Expr} (hX : clausesOf X = gens) (hg : gens[dp]? = some ⟨tg, iter, ifs, 0⟩)
    (hu : A.under (.compStart X dp it acc env) = A) (hd : (model prog w).den (.compStart X dp it acc env) = (compStart X dp it acc env).onRaise (fun x => do noteFrame x env; standAt theWindowsPlace))
    (h0 : codeAny (model prog w) A (.compLoop X dp it acc env) R s)
    (h : wpAny (model prog w) A (pyIter it) (fun it' s' => codeAny (model prog w) A (.compLoop X dp it' acc env) R s') (notedBy (model prog w) A env fun x s' => R (.error x) s') s) :
    codeAny (model prog w) A (.compStart X dp it acc env) R s := by
  refine codeAny_of_tree ?_
  rw [hd, hu]
  refine wpAny_notedAt ?_
  unfold compStart
  simp only [hX, hg, Option.elim_some]
  rw [if_neg (by decide)]
  show wpAny _ _ (ask >>= _) _ _ s
  refine wpAny_bind (wpAny_askSetting (wpAny_ite ?_))
  split
  · first
      | exact wpAny_bind (wpAny_pure (wpAny_pure (And.intro rfl h0)))
      | exact wpAny_pure (And.intro rfl h0)
  · first
      | exact wpAny_bind (wpAny_rule (wpAny_bind (wpAny_standAt (wpAny_bind (wpAny_mono h (fun it' s' h' => wpAny_pure (And.intro rfl h')) fun _ _ x => x)))))
      | (refine wpAny_bind (wpAny_rule ?_); show wpAny _ _ (standAt iter.pos >>= _) _ _ s; exact wpAny_bind (wpAny_standAt (wpAny_bind (wpAny_mono h (fun it' s' h' => wpAny_pure (And.intro rfl h')) fun _ _ x => x))))
theorem compStart_list {elt : Expr} {gens : List Comprehension} {scope : Scope} {pos : Pos} {dp : Nat} {it acc : Value} {R : Result → Shared → Prop} {tg iter : Expr} {ifs : List Expr} (hg : gens[dp]? = some ⟨tg, iter, ifs, 0⟩)
    (h0 : codeAny (model prog w) A (.compLoop (.ListComp elt gens scope pos) dp it acc env) R s)
    (h : wpAny (model prog w) A (pyIter it) (fun it' s' => codeAny (model prog w) A (.compLoop (.ListComp elt gens scope pos) dp it' acc env) R s') (notedBy (model prog w) A env fun x s' => R (.error x) s') s) :
    codeAny (model prog w) A (.compStart (.ListComp elt gens scope pos) dp it acc env) R s := compStart_any rfl hg rfl rfl h0 h
theorem compStart_dict {kx vx : Expr} {gens : List Comprehension} {scope : Scope} {pos : Pos} {dp : Nat} {it acc : Value} {R : Result → Shared → Prop} {tg iter : Expr} {ifs : List Expr} (hg : gens[dp]? = some ⟨tg, iter, ifs, 0⟩)
    (h0 : codeAny (model prog w) A (.compLoop (.DictComp kx vx gens scope pos) dp it acc env) R s)
    (h : wpAny (model prog w) A (pyIter it) (fun it' s' => codeAny (model prog w) A (.compLoop (.DictComp kx vx gens scope pos) dp it' acc env) R s') (notedBy (model prog w) A env fun x s' => R (.error x) s') s) :
    codeAny (model prog w) A (.compStart (.DictComp kx vx gens scope pos) dp it acc env) R s := compStart_any rfl hg rfl rfl h0 h
theorem folded_py (e : X) (x : Value) : foldedSetIterable (e.py nm fn) env x = pure x := by cases e <;> rfl
theorem accL_step (Z : Addr) : ∀ (h h' : Heap) (vs : List V), AccL prog w Z h W vs → (∀ o, h.get? Z = some o → h'.get? Z = some o) → (∀ t b o, ¬ W t b → h.get? b = some o → h'.get? b = some o) → AccL prog w Z h' W vs := by
  rintro h h' vs ⟨us, m, e, r⟩ hz hk
  exact ⟨us, m, hz _ e, r.mono hk fun t a q => .inl q⟩
variable (am : Am prog w nm fn FT base N) {n : Nat} (ih : SoundTo prog w nm fn FT base N n)
theorem body_last {tq : Bool} {elt : X} {n' : Nat} (hn' : n' ≤ n) {T : Str → Prop} {Z : Addr} {h₀ : Heap} {tg : Tg} {tn : Bool} {vs vs₀ : List V} (hvs : (vs₀ ++ vs).length ≤ listLine)
    (g : Gd A fr base N env W T Z h₀) (dis : ∀ i ∈ tgVars tg, ρ i = none) (ih : SoundTo prog w nm fn FT base N n) (hZ0 : h₀.get? Z = none) :
    ∀ d ρ' x, bindTg tg (itV d tn) ρ = some ρ' → (match ev nm fn FT n' sc elt false ρ' with | some v => some [v] | none => none) = some x → ∀ (s₄ : Shared) vs', (vs' ++ x).length ≤ (vs₀ ++ vs).length →
      Tn prog w nm fr tq env sc W ρ' h₀ s₄.heap → 0 ≤ s₄.toks → AccL prog w Z s₄.heap W vs' → ∀ (Qc : Shared → Prop) E,
      (∀ h₅ tk, s₄.toks ≤ tk → Kp (SS fr tq) h₀ h₅ → EOk prog w nm env sc h₅ W ρ → AccL prog w Z h₅ W (vs' ++ x) → (∀ b o, b ≠ Z → ¬ Fm.at env T b → s₄.heap.get? b = some o → h₅.get? b = some o) → Qc (up s₄ h₅ tk)) →
      wpAny (model prog w) A (eval (elt.py nm fn) env) (fun x s₅ => wpAny (model prog w) A (call (.builtin "list.append") [.ref Z, x]) (fun _ s₆ => Qc s₆) E s₅) E s₄ := by
  intro d ρ' x hb hem s₄ vs' hlen t₄ tk₄ ac Qc E h
  refine I.b1 hem fun v hv hem => ?_
  rw [← Option.some.inj hem] at hlen h
  refine (ih n' hn').k hv (t₄.st g tk₄) fun u h₅ tk₅ hn₅ k r st₅ => ?_
  have k : ∀ b o, s₄.heap.get? b = some o → h₅.get? b = some o := fun b o e => k.out b o (fun q => Bool.false_ne_true q.1) e
  obtain ⟨us, m, hz, rs⟩ := accL_step Z _ _ _ ac (fun o e => k Z o e) fun t b o _ e => k b o e
  refine wpAny_list_append_plain (items := us.toArray) ⟨m, hz⟩ (fun h₆ hl hs => ?_) (by rw [List.size_toArray, rs.length, sizeLine_eq]; exact Nat.le_trans (Nat.le_trans (by rw [List.length_append]; exact Nat.le_add_right _ _) (Nat.le_trans hlen hvs)) (by decide))
  have k6 : ∀ b o, b ≠ Z → h₅.get? b = some o → h₆.get? b = some o := fun b o hb e => (hs.2 b hb).trans e
  have kw : ∀ t b o, ¬ W t b → h₅.get? b = some o → h₆.get? b = some o := fun t b o hw e => k6 b o (fun q => hw (by rw [q]; cases t; exact g.le _ g.DW; exact g.DW)) e
  obtain ⟨m', hz'⟩ := hl
  exact h h₆ tk₅ hn₅ (t₄.keep.andThen fun b o e0 e => k6 b o (fun q => e0 (by rw [q, hZ0])) (k b o e)) ((st₅.e.keep (fun a o q e => k6 a o (fun z => g.DF (z ▸ q)) e) kw).less (bindTg_ext hb dis)) ⟨us ++ [u], m', by rw [hz']; simp [sq], (rs.append (.cons r .nil)).mono kw fun t a q => .inl q⟩ fun b o q1 _ e => k6 b o q1 (k b o e)
end
end Mine
end
section
set_option maxRecDepth 100000
open PySem PySem.W PyProof.Rows PySem.Calls
set_option autoImplicit false
namespace Mine
section
variable {prog : Program} {w : World} {nm fn : Nat → Str} {FT : List FE} {base : Heap} {N : Nat} {A : Around} {fr : List Env} {env : Env} {sc : Scope} {W : Bool → Addr → Prop} {ρ : Rho} {s : Shared}
theorem drop_cons {α : Type} {l r : List α} {x : α} {d : Nat} (h : l.drop d = x :: r) : l[d]? = some x ∧ l.drop (d + 1) = r := by
  constructor
  · have := congrArg List.head? h
    simpa [List.head?_drop] using this
  · have := congrArg List.tail h
    simpa [List.tail_drop] using this
variable (am : Am prog w nm fn FT base N) {n : Nat} (ih : SoundTo prog w nm fn FT base N n)
include am ih
theorem loop_list {tq : Bool} {elt : X} {n' : Nat} (hn' : n' ≤ n) {gens : List Comprehension} {scope : Scope} {pos : Pos} {Z : Addr} {h₀ : Heap} {T : Str → Prop} : ∀ k, k ≤ n + 1 → ∀ (g : GS) (dp : Nat) (items : List D) (tn en : Bool) (ρ : Rho) (vs vs₀ : List V) (W : Bool → Addr → Prop)
    (I : Addr) (fp wr : List Addr) (At : Nat → Heap → Prop) (Wt : Addr → Prop) (h₁ : Heap) (s : Shared) (R : Result → Shared → Prop),
    evG nm fn FT k sc g items tn en ρ (fun r' => match ev nm fn FT n' sc elt false r' with | some v => some [v] | none => none) = some vs → gens.drop dp = g.py nm fn → (vs₀ ++ vs).length ≤ listLine →
    Gd A fr base N env W T Z h₀ → Lp prog w A env W T Z tn I fp wr items en h₁ Wt At → (∀ i ∈ gsVars g, putOk sc (nm i) = true ∧ T (nm i)) → (∀ i ∈ gsVars g, ρ i = none) → (gsVars g).Nodup →
    At 0 s.heap → (∀ b o, ¬ W tn b → h₁.get? b = some o → s.heap.get? b = some o) → Tn prog w nm fr tq env sc W ρ h₀ s.heap → AccL prog w Z s.heap W vs₀ → 0 ≤ s.toks → (∀ a, (a = Z ∨ a ∈ wr ∨ Fm.at env T a) → h₀.get? a = none) →
    (∀ h' tk, s.toks ≤ tk → Kp (SS fr tq) h₀ h' → EOk prog w nm env sc h' W ρ → AccL prog w Z h' W (vs₀ ++ vs) → (∀ b o, b ≠ Z → b ∉ wr → ¬ Fm.at env T b → s.heap.get? b = some o → h'.get? b = some o) → R (.ok .next) (up s h' tk)) →
    codeAny (model prog w) A (.compLoop (.ListComp (elt.py nm fn) gens scope pos) dp (.ref I) (.ref Z) env) R s := by
  intro k
  induction k with
  | zero => intro _ g dp items tn en ρ vs vs₀ W I fp wr At Wt h₁ s R hev; exact optE hev
  | succ k ihk =>
  intro hk g dp items tn en ρ vs vs₀ W I fp wr At Wt h₁ s R hev hdrop hlen gd lp put dis nod hat kp x ac htk new hR
  cases g with
  | nil => exact optE hev
  | cons t src ifs rest =>
  obtain ⟨hg, hdrop'⟩ := drop_cons (show gens.drop dp = ⟨t.py nm, src.py nm fn, ifs.py nm fn, 0⟩ :: rest.py nm fn from hdrop)
  have put1 : ∀ i ∈ tgVars t, putOk sc (nm i) = true ∧ T (nm i) := fun i hi => put i (List.mem_append_left _ hi)
  have dis1 : ∀ i ∈ tgVars t, ρ i = none := fun i hi => dis i (List.mem_append_left _ hi)
  have hZ0 : h₀.get? Z = none := new Z (.inl rfl)
  cases rest with
  | nil =>
    refine ifE hev fun two hev => ?_
    have two := eq_of_beq two
    have hl : gens[dp + 1]? = none := by
      have : gens.drop (dp + 1) = [] := hdrop'
      exact List.getElem?_eq_none (List.drop_eq_nil_iff.mp this)
    exact loop_gen am ih (Ac := fun h vs => AccL prog w Z h W vs) (Bd := fun Qc E s => wpAny (model prog w) A (eval (elt.py nm fn) env) (fun x s₅ => wpAny (model prog w) A (call (.builtin "list.append") [.ref Z, x]) (fun _ s₆ => Qc s₆) E s₅) E s)
      rfl rfl rfl (fun s Q E h => turn_last hg hl h) (by omega) hev (body_last hn' hlen gd dis1 ih hZ0) (accL_step Z) (fun h vs q => let ⟨_, _, e, _⟩ := q; ⟨_, e⟩) gd lp put1 dis1 two hat kp x ac htk new hR
  | cons t' src' ifs' rest' =>
    exact optE hev
end
end Mine
end
section
set_option maxRecDepth 100000
open PySem PySem.W PyProof.Rows PySem.Calls
set_option autoImplicit false
namespace Mine
section
variable {prog : Program} {w : World} {nm fn : Nat → Str} {FT : List FE} {base : Heap} {N : Nat} {A : Around} {fr : List Env} {env : Env} {sc : Scope} {W : Bool → Addr → Prop} {ρ : Rho} {s : Shared}
theorem varsOk_of {sc' : Scope} {gs : GS} (h : varsOk nm sc' gs = true) : (∀ i ∈ gsVars gs, putOk sc' (nm i) = true) ∧ (gsVars gs).Nodup := by
  unfold varsOk at h
  rw [Bool.and_eq_true, List.all_eq_true, decide_eq_true_iff] at h
  exact h
theorem putOk_rel {sc' : Scope} {x : Str} (h : putOk sc' x = true) : putOk (rel sc sc') x = true ∧ (sc'.names.lookup x = some .local ∨ sc'.names.lookup x = some .cell) := by
  unfold putOk at h ⊢
  rw [Bool.or_eq_true, beq_iff_eq, beq_iff_eq] at h
  refine ⟨?_, h⟩
  rw [rel_lookup]
  rcases h with h | h <;> rw [h] <;> rfl
@[reducible] noncomputable def TV (nm : Nat → Str) (gs : GS) : Str → Prop := fun x => ∃ i ∈ gsVars gs, x = nm i
@[reducible] noncomputable def WIn (W : Bool → Addr → Prop) (Z : Addr) (wr : List Addr) (F : Addr → Prop) : Bool → Addr → Prop := fun t a => W t a ∨ a = Z ∨ a ∈ wr ∨ F a
theorem WIn.el {W : Bool → Addr → Prop} {Z : Addr} {wr : List Addr} {F : Addr → Prop} {t : Bool} {a : Addr} {G : Prop} (h : WIn W Z wr F t a) (k1 : W t a → G) (k2 : a = Z → G) (k3 : a ∈ wr → G) (k4 : F a → G) : G :=
  h.elim k1 fun h => h.elim k2 fun h => h.elim k3 k4
structure Fr0 (prog : Program) (w : World) (nm : Nat → Str) (A : Around) (fr : List Env) (base : Heap) (N : Nat) (tp : Bool) (env : Env) (sc sc' : Scope) (W : Bool → Addr → Prop) (ρ : Rho) (gs : GS) (tn : Bool) (items : List D) (en : Bool) (h₀ h₂ : Heap) (I : Addr) (fp wr : List Addr) (At : Nat → Heap → Prop) (o : Obj) : Prop where
  gd : Gd A fr base N (compEnv env sc' (h₂.objs.size + 1)) (WIn W h₂.objs.size wr (Fm.at (compEnv env sc' (h₂.objs.size + 1)) (TV nm gs))) (TV nm gs) h₂.objs.size h₀
  lp : Lp prog w A (compEnv env sc' (h₂.objs.size + 1)) (WIn W h₂.objs.size wr (Fm.at (compEnv env sc' (h₂.objs.size + 1)) (TV nm gs))) (TV nm gs) h₂.objs.size tn I fp wr items en h₂ (W tn) At
  put : ∀ i ∈ gsVars gs, putOk (rel sc sc') (nm i) = true ∧ ∃ j ∈ gsVars gs, nm i = nm j
  dis : ∀ i ∈ gsVars gs, inner nm sc' ρ i = none
  hat : At 0 (compHeap (h₂.push o) sc')
  tn : Tn prog w nm fr tp (compEnv env sc' (h₂.objs.size + 1)) (rel sc sc') (WIn W h₂.objs.size wr (Fm.at (compEnv env sc' (h₂.objs.size + 1)) (TV nm gs))) (inner nm sc' ρ) h₀ (compHeap (h₂.push o) sc')
  new : ∀ a, (a = h₂.objs.size ∨ a ∈ wr ∨ Fm.at (compEnv env sc' (h₂.objs.size + 1)) (TV nm gs) a) → h₀.get? a = none
  up : ∀ b x, h₂.get? b = some x → (compHeap (h₂.push o) sc').get? b = some x
  atNew : ∀ a, Fm.at (compEnv env sc' (h₂.objs.size + 1)) (TV nm gs) a → (h₂.push o).get? a = none
  C : (h₂.push o).get? (h₂.objs.size + 1) = none
theorem fr0_ok {tp tn en : Bool} {items : List D} {sc' : Scope} {gs : GS} {h₂ : Heap} {tk₂ : Nat} {I : Addr} {fp wr : List Addr} {At : Nat → Heap → Prop} {o : Obj} (st : St (prog := prog) (w := w) (nm := nm) A fr base N env sc W ρ s)
    (hc : compOk sc sc' = true) (hv : varsOk nm sc' gs = true) (k : Kp (SS fr tp) s.heap h₂) (hn : s.toks ≤ tk₂) (hwr : ∀ b ∈ wr, s.heap.get? b = none) (hfp : ∀ b ∈ fp, b ∈ wr ∨ ¬ W tn b) (hat : At 0 h₂) (wk : Wk prog w A I fp wr items en h₂ (W tn) At) (ho : o.isFreed = false) :
    Fr0 prog w nm A fr base N tp env sc sc' W ρ gs tn items en s.heap h₂ I fp wr At o := by
  have hsc := st.e.sc
  subst hsc
  obtain ⟨hv1, hv2⟩ := varsOk_of hv
  have hsz : (h₂.push o).objs.size = h₂.objs.size + 1 := Heap.size_push ..
  have hT : ∀ x, (∃ i ∈ gsVars gs, x = nm i) → sc'.names.lookup x = some .local ∨ sc'.names.lookup x = some .cell := fun x ⟨i, hi, e⟩ => e ▸ (putOk_rel (sc := env.scope) (hv1 i hi)).2
  have cat := comp_at (h := h₂.push o) (T := fun x => ∃ i ∈ gsVars gs, x = nm i) hc hT
  rw [hsz] at cat
  have up1 : ∀ b x, h₂.get? b = some x → (h₂.push o).get? b = some x := fun b x e => Heap.get?_push_of_some _ e
  have up : ∀ b x, h₂.get? b = some x → (compHeap (h₂.push o) sc').get? b = some x := fun b x e => compHeap_keeps _ _ b x (up1 b x e)
  have none1 : ∀ a, (h₂.push o).get? a = none → h₂.get? a = none := fun a e => by
    cases q : h₂.get? a with
    | none => rfl
    | some x => rw [up1 a x q] at e; cases e
  have st₂ := st.step hn k
  have hZ : h₂.get? h₂.objs.size = none := push_none _
  have hZ' : (h₂.push o).get? h₂.objs.size = some o := Heap.get?_push_size _ ho
  have wrAl : ∀ b ∈ wr, ∃ x, h₂.get? b = some x := fun b hb => wk.1 _ _ hat b (wk.sub b hb)
  have newW : ∀ t a, (W t a ∨ a = h₂.objs.size ∨ a ∈ wr ∨ Fm.at (compEnv env sc' (h₂.objs.size + 1)) (TV nm gs) a) → W t a ∨ s.heap.get? a = none := fun t a q => q.elim .inl fun q => .inr (q.elim (fun q => q ▸ k.alive hZ) fun q => q.elim (hwr a) fun q => k.alive (none1 a (cat a q).1))
  have eIn : EOk prog w nm (compEnv env sc' (h₂.objs.size + 1)) (rel env.scope sc') (compHeap (h₂.push o) sc') (WIn W h₂.objs.size wr (Fm.at (compEnv env sc' (h₂.objs.size + 1)) (TV nm gs))) (inner nm sc' ρ) := by
    have e2 : EOk prog w nm env env.scope (h₂.push o) (fun t a => W t a ∨ a = h₂.objs.size ∨ a ∈ wr) ρ := by
      obtain ⟨σ, f, m⟩ := st.e.fm
      refine ⟨st.e.g, rfl, σ, (f.step k).step (S := fun _ => False) (Kp.of up1), fun i d t hi => ?_⟩
      obtain ⟨a, u, b, r⟩ := m i d t hi
      refine ⟨a, u, b, r.mono (fun b x hb e => up1 b x (k.out b x (fun q => hb (st.wo.fr' tp t b q)) e)) fun a q => q.elim .inl fun q => .inr (q.elim (fun q => q ▸ k.alive hZ) (hwr a))⟩
    have := comp_fm (h := h₂.push o) e2 (fun _ _ e => e) hc (WIn W h₂.objs.size wr (Fm.at (compEnv env sc' (h₂.objs.size + 1)) (TV nm gs))) fun t a q => WIn.el q (fun q => .inl (.inl q)) (fun q => .inl (.inr (.inl q))) (fun q => .inl (.inr (.inr q))) fun q => .inr (cat a q).1
    rw [hsz] at this
    exact this
  obtain ⟨σi, fi, _⟩ := eIn.fm
  have allOld : ∀ a, Fm.all (compEnv env sc' (h₂.objs.size + 1)) a → (h₂.push o).get? a = none ∨ ∃ x, s.heap.get? a = some x := fun a q => by
    obtain ⟨hk, hd, hf⟩ := compOk_of hc
    obtain ⟨c1, c2, c3⟩ := comp_cells (h := h₂.push o) (sc' := sc') env hd
    rw [hsz] at c1 c2
    rcases q with rfl | ⟨x, hx, hcx⟩
    · left; rw [← hsz]; exact push_none _
    · have kd : (compEnv env sc' (h₂.objs.size + 1)).kindOf x = (sc'.names.lookup x).map fun k => if (k == .free && env.scope.kind == .function && env.scope.names.lookup x == some .cell) then .cell else k := rel_lookup _ _ x
      rw [kd] at hx
      cases q : sc'.names.lookup x with
      | none => rw [q] at hx; simp at hx
      | some kk =>
        cases kk with
        | cell =>
          obtain ⟨c, a1, _, lt⟩ := c1 x q
          rw [hcx] at a1; cases a1
          left; exact Heap.get?_none_of_le (by rw [hsz]; omega)
        | free =>
          obtain ⟨σ, f, _⟩ := st.e.fm
          obtain ⟨c, hc', oc, hoc, _⟩ := f.cell x (hf (x, .free) (mem_of_lookup q) rfl)
          have := c2 x q
          rw [hcx, hc'] at this; cases this
          exact .inr ⟨oc, hoc⟩
        | _ => rw [q] at hx; simp at hx
  have atNew : ∀ a, Fm.at (compEnv env sc' (h₂.objs.size + 1)) (TV nm gs) a → (h₂.push o).get? a = none := fun a q => (cat a q).1
  have C0 : (h₂.push o).get? (h₂.objs.size + 1) = none := by rw [← hsz]; exact push_none _
  refine ⟨⟨st.cx, fun a q => .inl (st.wo.fr a q), fun a q => q.imp (st.wo.le a) id, .inr (.inl rfl), fun a q => .inr (.inr (.inr q)), fun q => ?_⟩,
    ⟨wk, fun a q => .inr (.inr (.inl q)), fun q => ?_, fun b hb q => ?_, fun b hb q => ?_, fun a q => ?_⟩, fun i hi => ⟨(putOk_rel (hv1 i hi)).1, i, hi, rfl⟩, fun i hi => ?_, wk.frame hat fun b hb x e => up b x e, ⟨?_, eIn, fun a q => ?_⟩, fun a q => ?_, up, atNew, C0⟩
  · rcases allOld _ q with z | ⟨x, z⟩
    · rw [hZ'] at z; cases z
    · obtain ⟨_, e⟩ := k.all _ _ z; rw [hZ] at e; cases e
  · rcases hfp _ q with z | z
    · obtain ⟨x, e⟩ := wrAl _ z; rw [hZ] at e; cases e
    · obtain ⟨x, e⟩ := wk.1 _ _ hat _ q; rw [hZ] at e; cases e
  · obtain ⟨x, e⟩ := wk.1 _ _ hat b hb
    have := atNew b q
    rw [up1 b x e] at this; cases this
  · obtain ⟨x, e⟩ := wrAl b hb
    rcases allOld b q with z | ⟨y, z⟩
    · rw [up1 b x e] at z; cases z
    · rw [hwr b hb] at z; cases z
  · exact WIn.el q .inl (fun q => .inr (.inr (q ▸ hZ))) (fun q => .inr (.inl q)) fun q => .inr (.inr (none1 a (atNew a q)))
  · unfold inner
    rcases (putOk_rel (sc := env.scope) (hv1 i hi)).2 with q | q <;> rw [q] <;> rfl
  · exact k.trans (Kp.of up)
  · exact WIn.el q (fun q => let ⟨x, e⟩ := st₂.wo.al a q; ⟨x, up a x e⟩) (fun q => ⟨o, compHeap_keeps _ _ _ _ (q ▸ hZ')⟩) (fun q => let ⟨x, e⟩ := wrAl a q; ⟨x, up a x e⟩) fun q => (cat a q).2
  · exact q.elim (fun q => q ▸ k.alive hZ) fun q => q.elim (hwr a) fun q => k.alive (none1 a (atNew a q))
end
end Mine
end
section
set_option maxRecDepth 100000
open PySem PySem.W PyProof.Rows PySem.Calls
set_option autoImplicit false
namespace Mine
section
variable {prog : Program} {w : World} {nm fn : Nat → Str} {FT : List FE} {base : Heap} {N : Nat} {A : Around} {fr : List Env} {env : Env} {sc : Scope} {W : Bool → Addr → Prop} {ρ : Rho} {s : Shared}
variable (am : Am prog w nm fn FT base N) {n : Nat} (ih : SoundTo prog w nm fn FT base N n)
include am ih
theorem lcomp_core {el : X} {t : Tg} {src : X} {ifs : XS} {rest : GS} {sc' : Scope} {p : Pos} {tp : Bool} {v : V} (e : ev nm fn FT (n + 1) sc (.lcomp el (.cons t src ifs rest) sc' p) tp ρ = some v)
    (st : St (prog := prog) (w := w) (nm := nm) A fr base N env sc W ρ s) {RR : Value → Addr → Result → Shared → Prop} {E : Value → Shared → Prop}
    (hRR : ∀ Z C h' tk, s.toks ≤ tk → s.heap.get? Z = none → s.heap.get? C = none → Z ≠ C → (∃ m, h'.Ns C m) → Kp (SS fr tp) s.heap h' → R prog w h' (fun a => W false a ∨ a = C) (.ref Z) v.1 → v.2 = false → RR (.ref Z) C (.ok .next) (up s h' tk)) :
    wpAny (model prog w) A (eval (src.py nm fn) env) (fun x s₁ => wpAny (model prog w) A (pyIter x) (fun it s₂ => wpAny (model prog w) A (newList []) (fun acc s₃ => wpAny (model prog w) A (newFunctionEnv sc' env.globals (clos env sc'.names []) [] env.qual none .none (some env)) (fun cenv s₄ =>
      codeAny (model prog w) A (.compStart (.ListComp (el.py nm fn) ((GS.cons t src ifs rest).py nm fn) sc' p) 0 it acc { cenv with scope := relabel sc' env }) (RR acc cenv.locals) s₄) E s₃) E s₂) E s₁) E s := by
  revert hRR
  refine Mine.I.lcomp e ?_
  intro hc hv items tn en vs hsrc hG hz hu hRR
  refine Mine.I.g0 hsrc fun k3 hk3 hsrc => ?_
  refine (sound_src am (ih k3 (by omega)) _ _ _ _ _ _ _ hsrc A fr env W s st).wp fun xv h₁ tk₁ hn₁ q => (q tk₁ hn₁).wp2 fun it h₂ tk₂ hn₂ k2 q => ?_
  refine gg fun G₀ kk => ?_
  obtain ⟨I, fp, wr, At, rfl, hwr, hfp, hat, wk⟩ := q
  refine kk ?_
  have fz := fr0_ok (o := { cls := .type "list", data := .seq ([] : List Value).toArray }) st hc hv k2 (Nat.le_trans hn₁ hn₂) hwr hfp hat wk rfl
  refine wpAny_newList ?_
  refine newEnv_ok ?_
  dsimp only
  rw [show (h₂.push { cls := .type "list", data := .seq ([] : List Value).toArray }).objs.size = h₂.objs.size + 1 from Heap.size_push ..]
  have hloop : ∀ s₇ : Shared, s₇ = { s with heap := compHeap (h₂.push { cls := .type "list", data := .seq ([] : List Value).toArray }) sc', toks := tk₂ } →
      codeAny (model prog w) A (.compLoop (.ListComp (el.py nm fn) ((GS.cons t src ifs rest).py nm fn) sc' p) 0 (.ref I) (.ref h₂.objs.size) (compEnv env sc' (h₂.objs.size + 1))) (RR (.ref h₂.objs.size) (h₂.objs.size + 1)) s₇ := by
    rintro s₇ rfl
    refine loop_list am ih (elt := el) (n' := n) (Nat.le_refl _) n (Nat.le_succ _) (.cons t src ifs rest) 0 items tn en _ vs [] _ I fp wr At (W tn) h₂ _ _ hG rfl hz fz.gd fz.lp fz.put fz.dis (varsOk_of hv).2 fz.hat (fun b o _ e => fz.up b o e) fz.tn
      ⟨[], 0, compHeap_keeps _ _ _ _ (Heap.get?_push_size _ rfl), .nil⟩ (Nat.le_trans st.tk (Nat.le_trans hn₁ hn₂)) fz.new fun h' tk' hn' keep' e' ac' k' => ?_
    obtain ⟨us, m, hZ, rs⟩ := ac'
    obtain ⟨σ, f, _⟩ := e'.fm
    obtain ⟨mm, hns, _⟩ := f.ns
    refine hRR _ _ h' tk' (Nat.le_trans (Nat.le_trans hn₁ hn₂) hn') (k2.alive (push_none _)) (k2.alive ?_) (Nat.ne_of_lt (Nat.lt_succ_self _)) ⟨mm, hns⟩ keep' ?_ rfl
    · exact Heap.get?_none_of_le (Nat.le_succ _)
    · have hrl : ∀ {us : List Value} {vs : List V}, RVs prog w h' (WIn W h₂.objs.size wr (Fm.at (compEnv env sc' (h₂.objs.size + 1)) (TV nm (.cons t src ifs rest)))) us vs → untaint vs = true →
          RL prog w h' (fun a => W false a ∨ a = h₂.objs.size + 1) us (vs.map (·.1)) := fun {us vs} r => by
        intro hu
        induction r with
        | nil => exact .nil
        | @cons u us v vs r _ ih =>
          have hu' : v.2 = false ∧ untaint vs = true := by simpa [untaint] using hu
          refine .cons (r.mono (fun _ _ _ e => e) fun a q => .inl ?_) (ih hu'.2)
          rw [hu'.1]
          rcases q with q | q
          · exact .inl q
          · exact .inr (.inr (.inr (.inl q)))
      refine .lst (fun q => ?_) hZ (hrl rs hu)
      rcases q with q | q
      · exact (st.step (Nat.le_trans hn₁ hn₂) k2).wo.new false (push_none _) q
      · exact absurd q (Nat.ne_of_lt (Nat.lt_succ_self _))
  exact compStart_list (gens := (GS.cons t src ifs rest).py nm fn) rfl (hloop _ rfl) (self_ok (s := { s with heap := compHeap (h₂.push { cls := .type "list", data := .seq ([] : List Value).toArray }) sc', toks := tk₂ }) wk fz.hat (hloop _ rfl))
theorem ev_lcomp (el : X) (gs : GS) (sc' : Scope) (p : Pos) : EvOk prog w nm fn FT base N n (.lcomp el gs sc' p) := by
  intro sc tp ρ v e A fr env W s st
  have hc : compOk sc sc' = true := I.lcomp (m := fun _ => compOk sc sc' = true) e fun hc _ _ _ _ _ _ _ _ _ => hc
  cases gs with
  | nil => exact I.lcomp e fun _ _ _ _ _ _ h => by cases n <;> exact optE h
  | cons t src ifs rest =>
  have hsc := st.e.sc
  obtain ⟨σ, f, _⟩ := st.e.fm
  show wpAny _ A (eval (.ListComp (el.py nm fn) (⟨t.py nm, src.py nm fn, ifs.py nm fn, 0⟩ :: rest.py nm fn) sc' p) env) _ _ s
  rw [eval_ListComp]
  obtain ⟨hk, hd, hf⟩ := compOk_of hc
  refine wpAny_comprehension_free (use := none) rfl (fun x => folded_py src x) (closureFor_eq (compFree f (hsc ▸ hc))) hk (fun x hx hl => mem_lookup hd (by rw [← hl]; exact hx)) ?_
  refine lcomp_core am ih e st (RR := fun acc C => compPost (model prog w) A (fun _ _ => False) none _ acc C) fun Z C h' tk hn hZ hC hne hns k r ht => ?_
  obtain ⟨m, hm⟩ := hns
  refine ⟨m, hm, fun h'' hs => ⟨h'', tk, rfl, k.sameBut hs hC, ?_⟩⟩
  rw [ht]
  exact r.mono (fun b o hb e => (hs.2 b fun q => hb (.inr q)).trans e) fun a q => .inl (.inl q)
end
end Mine
end
section
set_option maxRecDepth 100000
open PySem PySem.W PyProof.Rows PySem.Calls
set_option autoImplicit false
namespace Mine
section
variable {prog : Program} {w : World}
theorem stored_cons_eq {k x : Str} {u v : Value} {r : List (Str × Value)} (hd : ((k, u) :: r |>.map (·.1)).Nodup) (e : k = x) : stored ((k, u) :: r) x v = (k, v) :: r := by
  subst e
  unfold stored
  rw [List.map_cons, List.nodup_cons] at hd
  have h1 : (((k, u) :: r).any fun kv => decide (kv.1 = k)) = true := by simp
  rw [if_pos h1, List.map_cons, if_pos rfl]
  congr 1
  conv => rhs; rw [← List.map_id r]
  apply List.map_congr_left
  rintro ⟨a, b⟩ hm
  have : a ≠ k := by rintro rfl; exact hd.1 (List.mem_map.mpr ⟨_, hm, rfl⟩)
  simp [this]
theorem stored_cons_ne {k x : Str} {u v : Value} {r : List (Str × Value)} (e : k ≠ x) : stored ((k, u) :: r) x v = (k, u) :: stored r x v := by
  unfold stored
  have h1 : (((k, u) :: r).any fun kv => decide (kv.1 = x)) = r.any fun kv => decide (kv.1 = x) := by simp [e]
  rw [h1]
  cases r.any fun kv => decide (kv.1 = x) with
  | true =>
    rw [if_pos rfl, if_pos rfl, List.map_cons]
    congr 1
    exact if_neg e
  | false => rw [if_neg (by simp), if_neg (by simp)]; rfl
theorem storeD_ok {h : Heap} {W : Addr → Prop} {x : Str} {v : Value} {d : D} (rv : R prog w h W v d) : ∀ {kvs : List (Str × Value)} {ds : List D}, RL prog w h W (kvs.map (·.2)) ds → (kvs.map (·.1)).Nodup →
    (stored kvs x v).map (·.1) = (storeD (kvs.map (·.1)) ds x d).1 ∧ RL prog w h W ((stored kvs x v).map (·.2)) (storeD (kvs.map (·.1)) ds x d).2
  | [], ds, r, _ => by cases r; exact ⟨rfl, .cons rv .nil⟩
  | (k, u) :: kvs, [], r, hd => nomatch r
  | (k, u) :: kvs, d' :: ds, .cons r1 r2, hd => by
    have eq : ∀ (k x : Str) ks ds, storeD (k :: ks) (d' :: ds) x d = if k = x then (k :: ks, d :: ds) else (k :: (storeD ks ds x d).1, d' :: (storeD ks ds x d).2) := fun _ _ _ _ => rfl
    rw [List.map_cons, eq]
    by_cases e : k = x
    · rw [stored_cons_eq hd e, if_pos e]
      exact ⟨rfl, .cons rv r2⟩
    · rw [stored_cons_ne e, if_neg e]
      obtain ⟨a, b⟩ := storeD_ok rv (x := x) r2 (List.nodup_cons.mp hd).2
      exact ⟨congrArg (k :: ·) a, .cons r1 b⟩
theorem putAll_snoc (ps : List (Str × D)) (p : Str × D) : putAll (ps ++ [p]) = storeD (putAll ps).1 (putAll ps).2 p.1 p.2 := by
  unfold putAll; rw [List.foldl_append]; rfl
noncomputable def pairV (p : Str × D) : V := (.tup [.str p.1, p.2], false)
theorem kvsOf_pairs : ∀ ps : List (Str × D), kvsOf ((ps.map pairV).map (·.1)) = some ps
  | [] => rfl
  | p :: ps => by
    show (kvsOf ((ps.map pairV).map (·.1))).map ((p.1, p.2) :: ·) = _
    rw [kvsOf_pairs ps]; rfl
noncomputable def AcD (prog : Program) (w : World) (Z : Addr) (h : Heap) (Wf : Addr → Prop) (vs : List V) : Prop :=
  ∃ (ps : List (Str × D)) (kvs : List (Str × Value)), vs = ps.map pairV ∧ h.DictOf (strKind prog w) Z kvs ∧ kvs.length ≤ vs.length ∧ kvs.map (·.1) = (putAll ps).1 ∧ RL prog w h Wf (kvs.map (·.2)) (putAll ps).2
theorem stored_len (kvs : List (Str × Value)) (x : Str) (v : Value) : (stored kvs x v).length ≤ kvs.length + 1 := by
  unfold stored; split <;> simp
end
section
variable {prog : Program} {w : World} {nm fn : Nat → Str} {FT : List FE} {base : Heap} {N : Nat} {A : Around} {fr : List Env} {env : Env} {sc : Scope} {W : Bool → Addr → Prop} {ρ : Rho} {s : Shared}
theorem acD_step (Z : Addr) : ∀ (h h' : Heap) (vs : List V), AcD prog w Z h (W false) vs → (∀ o, h.get? Z = some o → h'.get? Z = some o) → (∀ t b o, ¬ W t b → h.get? b = some o → h'.get? b = some o) → AcD prog w Z h' (W false) vs := by
  rintro h h' vs ⟨ps, kvs, e1, ⟨o, es, ep, ho, r⟩, e3, e4, e5⟩ hz hk
  exact ⟨ps, kvs, e1, ⟨o, es, ep, hz _ ho, r⟩, e3, e4, e5.mono (fun b o hb e => hk false b o hb e) fun a q => .inl q⟩
variable (am : Am prog w nm fn FT base N) {n : Nat} (ih : SoundTo prog w nm fn FT base N n)
theorem body_dict {tq : Bool} {kx vx : X} {n' : Nat} (hn' : n' ≤ n) {T : Str → Prop} {Z : Addr} {h₀ : Heap} {tg : Tg} {tn : Bool} {vs vs₀ : List V} (hvs : (vs₀ ++ vs).length ≤ listLine)
    (g : Gd A fr base N env W T Z h₀) (dis : ∀ i ∈ tgVars tg, ρ i = none) (ih : SoundTo prog w nm fn FT base N n) (hZ0 : h₀.get? Z = none) :
    ∀ d ρ' x, bindTg tg (itV d tn) ρ = some ρ' → (match ev nm fn FT n' sc kx false ρ', ev nm fn FT n' sc vx false ρ' with
          | some (.str x, _), some (d, false) => some [(D.tup [.str x, d], false)]
          | _, _ => none) = some x → ∀ (s₄ : Shared) vs', (vs' ++ x).length ≤ (vs₀ ++ vs).length →
      Tn prog w nm fr tq env sc W ρ' h₀ s₄.heap → 0 ≤ s₄.toks → AcD prog w Z s₄.heap (W false) vs' → ∀ (Qc : Shared → Prop) E,
      (∀ h₅ tk, s₄.toks ≤ tk → Kp (SS fr tq) h₀ h₅ → EOk prog w nm env sc h₅ W ρ → AcD prog w Z h₅ (W false) (vs' ++ x) → (∀ b o, b ≠ Z → ¬ Fm.at env T b → s₄.heap.get? b = some o → h₅.get? b = some o) → Qc (up s₄ h₅ tk)) →
      wpAny (model prog w) A (eval (kx.py nm fn) env) (fun x s₅ => wpAny (model prog w) A (eval (vx.py nm fn) env) (fun y s₆ => wpAny (model prog w) A (dictSet Z x y) (fun _ s₇ => Qc s₇) E s₆) E s₅) E s₄ := by
  intro d ρ' x hb hem s₄ vs' hlen t₄ tk₄ ac Qc E h
  refine I.mSF hem fun xs tx dv hv1 hv2 hem => ?_
  rw [← Option.some.inj hem] at hlen h
  refine (ih n' hn').k hv1 (t₄.st g tk₄) fun u h₅ tk₅ hn₅ k r st₅ => (ih n' hn').k hv2 st₅ fun u2 h₆ tk₆ hn₆ k2 r2 st₆ => R.strE r fun t => ?_
  have k : ∀ b o, s₄.heap.get? b = some o → h₆.get? b = some o := fun b o e => k2.out b o (fun q => Bool.false_ne_true q.1) (k.out b o (fun q => Bool.false_ne_true q.1) e)
  refine gg fun G₀ kk => ?_
  obtain ⟨ps, kvs, rfl, hd, hl, hks, hrl⟩ := acD_step (W := W) Z _ _ _ ac (fun o e => k Z o e) fun t b o _ e => k b o e
  refine kk ?_
  have hnd : (kvs.map (·.1)).Nodup := by obtain ⟨_, _, _, _, _, _, _, _, q⟩ := hd; exact q
  have hst := storeD_ok r2 (x := xs) hrl hnd
  rw [hks, ← putAll_snoc ps (xs, dv)] at hst
  have hle : (ps.map pairV).length + 1 ≤ 100000 := by rw [List.length_append] at hlen; exact Nat.le_trans hlen hvs
  refine wpAny_dictSet_pairs (strKind_is prog w _ _) hd (fun h₇ hd' hs => ?_) (by rw [sizeLine_eq]; omega)
  have k7 : ∀ b o, b ≠ Z → h₆.get? b = some o → h₇.get? b = some o := fun b o hb e => (hs.2 b hb).trans e
  have kw : ∀ t b o, ¬ W t b → h₆.get? b = some o → h₇.get? b = some o := fun t b o hw e => k7 b o (fun q => hw (by rw [q]; cases t; exact g.le _ g.DW; exact g.DW)) e
  exact h h₇ _ (Nat.le_trans hn₅ (Nat.le_succ_of_le hn₆)) (t₄.keep.andThen fun b o e0 e => k7 b o (fun q => e0 (by rw [q, hZ0])) (k b o e)) ((st₆.e.keep (fun a o q e => k7 a o (fun z => g.DF (z ▸ q)) e) kw).less (bindTg_ext hb dis))
    ⟨ps ++ [(xs, dv)], stored kvs xs u2, by rw [List.map_append]; rfl, hd', by rw [List.length_append]; exact Nat.le_trans (stored_len kvs xs u2) (Nat.add_le_add_right hl 1), hst.1, hst.2.mono (fun b o hb e => kw false b o hb e) fun a q => .inl q⟩ fun b o q1 _ e => k7 b o q1 (k b o e)
include am ih
theorem dcomp_core {kx vx : X} {t : Tg} {src : X} {ifs : XS} {sc' : Scope} {p : Pos} {tp : Bool} {v : V} (e : ev nm fn FT (n + 1) sc (.dcomp kx vx (.cons t src ifs .nil) sc' p) tp ρ = some v)
    (st : St (prog := prog) (w := w) (nm := nm) A fr base N env sc W ρ s) {RR : Value → Addr → Result → Shared → Prop} {E : Value → Shared → Prop}
    (hRR : ∀ Z C h' tk, s.toks ≤ tk → s.heap.get? Z = none → s.heap.get? C = none → Z ≠ C → (∃ m, h'.Ns C m) → Kp (SS fr tp) s.heap h' → R prog w h' (fun a => W false a ∨ a = C) (.ref Z) v.1 → v.2 = false → RR (.ref Z) C (.ok .next) (up s h' tk)) :
    wpAny (model prog w) A (eval (src.py nm fn) env) (fun x s₁ => wpAny (model prog w) A (pyIter x) (fun it s₂ => wpAny (model prog w) A newDict (fun acc s₃ => wpAny (model prog w) A (newFunctionEnv sc' env.globals (clos env sc'.names []) [] env.qual none .none (some env)) (fun cenv s₄ =>
      codeAny (model prog w) A (.compStart (.DictComp (kx.py nm fn) (vx.py nm fn) ((GS.cons t src ifs .nil).py nm fn) sc' p) 0 it acc { cenv with scope := relabel sc' env }) (RR acc cenv.locals) s₄) E s₃) E s₂) E s₁) E s := by
  revert hRR
  refine Mine.I.dcomp e ?_
  intro hc hv _ items tn en vs kvs0 hsrc hG hz hkv hRR
  refine Mine.I.g0 hsrc fun k3 hk3 hsrc => ?_
  refine (sound_src am (ih k3 (by omega)) _ _ _ _ _ _ _ hsrc A fr env W s st).wp fun xv h₁ tk₁ hn₁ q => (q tk₁ hn₁).wp2 fun it h₂ tk₂ hn₂ k2 q => ?_
  refine gg fun G₀ kk => ?_
  obtain ⟨I, fp, wr, At, rfl, hwr, hfp, hat, wk⟩ := q
  refine kk ?_
  have fz := fr0_ok (o := { cls := .type "dict", data := .dict #[] }) st hc hv k2 (Nat.le_trans hn₁ hn₂) hwr hfp hat wk rfl
  refine wpAny_newObj_type ?_
  refine newEnv_ok ?_
  dsimp only
  rw [show (h₂.push { cls := .type "dict", data := .dict #[] }).objs.size = h₂.objs.size + 1 from Heap.size_push ..]
  refine Mine.I.g1 hG fun n₀ hn₀ two hG => ?_
  have hgv : gsVars (.cons t src ifs .nil) = tgVars t := List.append_nil _
  have hloop : ∀ s₇ : Shared, s₇ = { s with heap := compHeap (h₂.push { cls := .type "dict", data := .dict #[] }) sc', toks := tk₂ } →
      codeAny (model prog w) A (.compLoop (.DictComp (kx.py nm fn) (vx.py nm fn) [⟨t.py nm, src.py nm fn, ifs.py nm fn, 0⟩] sc' p) 0 (.ref I) (.ref h₂.objs.size) (compEnv env sc' (h₂.objs.size + 1))) (RR (.ref h₂.objs.size) (h₂.objs.size + 1)) s₇ := by
    rintro s₇ rfl
    refine loop_gen am ih (Ac := fun h vs => AcD prog w h₂.objs.size h _ vs) (vs₀ := []) (Bd := fun Qc E s => wpAny (model prog w) A (eval (kx.py nm fn) _) (fun x s₅ => wpAny (model prog w) A (eval (vx.py nm fn) _) (fun y s₆ => wpAny (model prog w) A (dictSet h₂.objs.size x y) (fun _ s₇ => Qc s₇) E s₆) E s₅) E s)
      rfl rfl rfl (fun s Q E h => turn_dict h) (k := n₀) (by omega) hG (body_dict (vs₀ := []) (n' := n) (Nat.le_refl _) hz fz.gd (fun i hi => fz.dis i (by rw [hgv]; exact hi)) ih (fz.new _ (.inl rfl))) (acD_step (W := WIn W h₂.objs.size wr (Fm.at (compEnv env sc' (h₂.objs.size + 1)) (TV nm (.cons t src ifs .nil)))) _) (fun h vs q => let ⟨_, _, _, ⟨_, _, _, e, _⟩, _⟩ := q; ⟨_, e⟩) fz.gd fz.lp (fun i hi => fz.put i (by rw [hgv]; exact hi)) (fun i hi => fz.dis i (by rw [hgv]; exact hi)) two fz.hat (fun b o _ e => fz.up b o e) fz.tn
      ⟨[], [], rfl, ?_, Nat.le_refl _, rfl, .nil⟩ (Nat.le_trans st.tk (Nat.le_trans hn₁ hn₂)) fz.new fun h' tk' hn' keep' e' ac' k' => ?_
    · exact (Heap.DictOf.new h₂).keep fun b o e => compHeap_keeps _ _ b o e
    · obtain ⟨ps, kvs, hvs, hd, hl, hks, hrl⟩ := ac'
      obtain ⟨σ, f, _⟩ := e'.fm
      obtain ⟨mm, hns, _⟩ := f.ns
      have hps : kvs0 = ps := by
        rw [List.nil_append] at hvs
        rw [hvs, kvsOf_pairs] at hkv; cases hkv; rfl
      subst hps
      refine hRR _ _ h' tk' (Nat.le_trans (Nat.le_trans hn₁ hn₂) hn') (k2.alive (push_none _)) (k2.alive (Heap.get?_none_of_le (Nat.le_succ _))) (Nat.ne_of_lt (Nat.lt_succ_self _)) ⟨mm, hns⟩ keep' ?_ rfl
      refine .dct (fun q => ?_) (st.step (Nat.le_trans hn₁ hn₂) k2).low hd hks.symm (hrl.mono (fun _ _ _ e => e) fun a q => .inl ?_)
      · rcases q with q | q
        · exact (st.step (Nat.le_trans hn₁ hn₂) k2).wo.new false (push_none _) q
        · exact absurd q (Nat.ne_of_lt (Nat.lt_succ_self _))
      · rcases q with q | q
        · exact .inl q
        · exact .inr (.inr (.inr (.inl q)))
  exact compStart_dict (gens := (GS.cons t src ifs .nil).py nm fn) rfl (hloop _ rfl) (self_ok (s := { s with heap := compHeap (h₂.push { cls := .type "dict", data := .dict #[] }) sc', toks := tk₂ }) wk fz.hat (hloop _ rfl))
theorem ev_dcomp (kx vx : X) (gs : GS) (sc' : Scope) (p : Pos) : EvOk prog w nm fn FT base N n (.dcomp kx vx gs sc' p) := by
  intro sc tp ρ v e A fr env W s st
  have hg : compOk sc sc' = true ∧ gs.single = true := I.dcomp (m := fun _ => compOk sc sc' = true ∧ gs.single = true) e fun hc _ hs _ _ _ _ _ _ _ _ _ => ⟨hc, hs⟩
  obtain ⟨hc, hsg⟩ := hg
  rcases gs with _ | ⟨t, src, ifs, _ | _⟩
  · cases hsg
  rotate_left
  · cases hsg
  have hsc := st.e.sc
  obtain ⟨σ, f, _⟩ := st.e.fm
  show wpAny _ A (comprehension (.DictComp (kx.py nm fn) (vx.py nm fn) [⟨t.py nm, src.py nm fn, ifs.py nm fn, 0⟩] sc' p) sc' env (firstIterPos [⟨t.py nm, src.py nm fn, ifs.py nm fn, 0⟩] p) newDict (firstAsync [⟨t.py nm, src.py nm fn, ifs.py nm fn, 0⟩]) (firstIter [⟨t.py nm, src.py nm fn, ifs.py nm fn, 0⟩] env)) _ _ s
  obtain ⟨hk, hd, hf⟩ := compOk_of hc
  refine wpAny_comprehension_free (use := none) rfl (fun x => folded_py src x) (closureFor_eq (compFree f (hsc ▸ hc))) hk (fun x hx hl => mem_lookup hd (by rw [← hl]; exact hx)) ?_
  refine dcomp_core am ih e st (RR := fun acc C => compPost (model prog w) A (fun _ _ => False) none _ acc C) fun Z C h' tk hn hZ hC hne hns k r ht => ?_
  obtain ⟨m, hm⟩ := hns
  refine ⟨m, hm, fun h'' hs => ⟨h'', tk, rfl, k.sameBut hs hC, ?_⟩⟩
  rw [ht]
  exact r.mono (fun b o hb e => (hs.2 b fun q => hb (.inr q)).trans e) fun a q => .inl (.inl q)
end
end Mine
end
section
set_option maxRecDepth 100000
open PySem PySem.W PyProof.Rows PySem.Calls
set_option autoImplicit false
namespace Mine
section
variable {prog : Program} {w : World} {nm fn : Nat → Str} {FT : List FE} {base : Heap} {N : Nat}
theorem sound (am : Am prog w nm fn FT base N) : ∀ n, SoundTo prog w nm fn FT base N n := by
  intro n
  induction n with
  | zero =>
    intro m hm
    have : m = 0 := by omega
    subst this
    exact ⟨fun _ _ _ _ _ h => optE h, fun _ _ _ _ _ h => optE h, fun _ _ _ _ _ _ h => optE h, fun _ _ _ _ _ h => optE h, fun _ _ _ _ _ h => optE h⟩
  | succ n ihn =>
    intro m hm
    by_cases h : m ≤ n
    · exact ihn m h
    have : m = n + 1 := by omega
    subst this
    have ih := ihn n (Nat.le_refl _)
    refine ⟨fun sc e tp ρ v he => ?_, sound_evs ih, sound_evP ih, sound_evO ih, sound_evT ih⟩
    cases e with
    | var i p => exact ev_var am i p sc tp ρ v he
    | int i k p =>
      intro A fr env W s st
      exact someE he (wpAny_Constant_int (fin ⟨Kp.refl, .int _ _⟩))
    | str i k p =>
      intro A fr env W s st
      exact someE he (wpAny_Constant_str (fin ⟨Kp.refl, .str _ _⟩))
    | neg a p => exact ev_neg ih a p sc tp ρ v he
    | bin op a b p => exact ev_bin ih op a b p sc tp ρ v he
    | cmp op a b p => exact ev_cmp ih op a b p sc tp ρ v he
    | ite t a b p => exact ev_ite ih t a b p sc tp ρ v he
    | not => exact optE he
    | and => exact optE he
    | or => exact optE he
    | item a b p => exact ev_item ih a b p sc tp ρ v he
    | slice a lo hi ps p => exact ev_slice ih a lo hi ps p sc tp ρ v he
    | rev a k pc pn ps p => exact ev_rev ih a k pc pn ps p sc tp ρ v he
    | list es p => exact ev_list ih es p sc tp ρ v he
    | tup es k p => exact ev_tup ih es k p sc tp ρ v he
    | dict ks vs p => exact ev_dict ih ks vs p sc tp ρ v he
    | lcomp e gs sc' p => exact ev_lcomp am ihn e gs sc' p sc tp ρ v he
    | dcomp k x gs sc' p => exact ev_dcomp am ihn k x gs sc' p sc tp ρ v he
    | call f fp as p => exact ev_call am ih f fp as p sc tp ρ v he
    | bi b fp as p => exact ev_bi am ih b fp as p sc tp ρ v he
    | meth m o ap as p => exact ev_meth am ih m o ap as p sc tp ρ v he
    | isSB e p1 p2 p3 k p4 p => exact ev_isSB am ih e p1 p2 p3 k p4 p sc tp ρ v he
    | isB e p1 p2 p => exact ev_isB am ih e p1 p2 p sc tp ρ v he
end
end Mine
end
section
set_option maxRecDepth 100000
open PySem PySem.W PyProof.Rows PySem.Calls
set_option autoImplicit false
set_option genSizeOf false
set_option genSizeOfSpec false
set_option genInjectivity false
namespace Mine
mutual
inductive Sm
  | asg (i : Nat) (pi : Pos) (e : X) (p : Pos)
  | own (i : Nat) (pi : Pos) (e : X) (p : Pos)
  | ownL (i : Nat) (pi pl : Pos) (ps : List Pos) (p : Pos)
  | unp (ts : List (Nat × Pos)) (k : Nat) (pt : Pos) (e : X) (p : Pos)
  | aug (i : Nat) (pi : Pos) (op : BOp) (e : X) (p : Pos)
  | augI (i : Nat) (pi : Pos) (k : X) (ps : Pos) (op : BOp) (e : X) (p : Pos)
  | setI (i : Nat) (pi : Pos) (k : X) (ps : Pos) (e : X) (p : Pos)
  | app (i : Nat) (pi pa : Pos) (e : X) (pc p : Pos)
  | appI (i : Nat) (pi : Pos) (k : X) (pk pa : Pos) (e : X) (pc p : Pos)
  | ite (t : X) (a b : Bl) (p : Pos)
  | for (tg : Tg) (src : X) (body : Bl) (p : Pos)
  | whl (t : X) (body : Bl) (p : Pos)
  | ret (e : X) (p : Pos)
  | brk (p : Pos)
  | tri (body : Bl) (h : ExceptHandler) (hs : List ExceptHandler) (p : Pos)
  | frz (i : Nat)
  | repIf (i : Nat) (y : Str) (k0 : Nat) (q1 q2 q3 q4 q5 q6 : Pos) (k1 : Nat) (q7 : Pos) (z : Str) (k2 : Nat) (q8 q9 q10 q11 : Pos)
  | raw (s : Stmt)
inductive Bl
  | nil
  | cons (a : Sm) (r : Bl)
end
section
variable (nm fn : Nat → Str)
mutual
noncomputable def Sm.py : Sm → List Stmt
  | .asg i pi e p => [.Assign [.Name (nm i) pi] (e.py nm fn) p]
  | .own i pi e p => [.Assign [.Name (nm i) pi] (e.py nm fn) p]
  | .ownL i pi pl ps p => [.Assign [.Name (nm i) pi] (.List (ps.map fun q => .List [] q) pl) p]
  | .unp ts k pt e p => [.Assign [.Tuple (ts.map fun t => .Name (nm t.1) t.2) k pt] (e.py nm fn) p]
  | .aug i pi op e p => [.AugAssign (.Name (nm i) pi) op.py (e.py nm fn) p]
  | .augI i pi k ps op e p => [.AugAssign (.Subscript (.Name (nm i) pi) (k.py nm fn) ps) op.py (e.py nm fn) p]
  | .setI i pi k ps e p => [.Assign [.Subscript (.Name (nm i) pi) (k.py nm fn) ps] (e.py nm fn) p]
  | .app i pi pa e pc p => [.Expr (.Call (.Attribute (.Name (nm i) pi) "append" pa) [e.py nm fn] [] pc) p]
  | .appI i pi k pk pa e pc p => [.Expr (.Call (.Attribute (.Subscript (.Name (nm i) pi) (k.py nm fn) pk) "append" pa) [e.py nm fn] [] pc) p]
  | .ite t a b p => [.If (t.py nm fn) a.py b.py p]
  | .for tg src body p => [.For (tg.py nm) (src.py nm fn) body.py [] p]
  | .whl t body p => [.While (t.py nm fn) body.py [] p]
  | .ret e p => [.Return (some (e.py nm fn)) p]
  | .brk p => [.Break p]
  | .tri body h hs p => [.Try body.py (h :: hs) [] [] p]
  | .frz _ => []
  | .repIf i y k0 q1 q2 q3 q4 q5 q6 k1 q7 z k2 q8 q9 q10 q11 => [.If (.Compare (.Constant (.str y) k0 q1) [.In] [.Name (nm i) q2] q3) [.Assign [.Name (nm i) q4] (.Call (.Attribute (.Name (nm i) q5) "replace" q6) [.Constant (.str y) k1 q7, .Constant (.str z) k2 q8] [] q9) q10] [] q11]
  | .raw s => [s]
noncomputable def Bl.py : Bl → List Stmt
  | .nil => []
  | .cons a r => a.py ++ r.py
end
end
inductive Slot
  | fr (d : D)
  | li (ds : List D)
  | di (ks : List Str) (ds : List D)
  | ll (dss : List (List D))
noncomputable def Slot.d : Slot → D
  | .fr d => d | .li ds => .lst ds | .di ks ds => .dct ks ds | .ll dss => .lst (dss.map .lst)
noncomputable def Slot.own : Slot → Bool
  | .fr _ => false | _ => true
abbrev Sta := Nat → Option Slot
noncomputable def rhoOf (S : Sta) : Rho := fun i => match S i with
  | some sl => some (sl.d, sl.own)
  | none => none
noncomputable def rhoT (S : Sta) : Rho := fun i => match S i with
  | some sl => some (itV sl.d true)
  | none => none
noncomputable def Sta.put (S : Sta) (i : Nat) (sl : Slot) : Sta := fun k => if k = i then some sl else S k
inductive Fl | next | brk | ret (d : D)
noncomputable def allLists : List D → Option (List (List D))
  | [] => some []
  | .lst ds :: r => if ds.all D.atom then (allLists r).map (ds :: ·) else none
  | _ :: _ => none
noncomputable def slotOf : D → Option Slot
  | .lst ds => if ds.all D.atom then some (.li ds) else none
  | .dct ks ds => if ds.all D.atom then some (.di ks ds) else none
  | _ => none
noncomputable def putMany (S : Sta) : List (Nat × Pos) → List D → Option Sta
  | [], [] => some S
  | t :: ts, d :: ds => putMany (S.put t.1 (.fr d)) ts ds
  | _, _ => none
noncomputable def setSlot (sl : Slot) (k d : D) : Option Slot := match sl, k with
  | .li ds, .int j => if 0 ≤ j ∧ j < ds.length ∧ ds.length ≤ listLine ∧ d.atom then some (.li (ds.set j.toNat d)) else none
  | .di ks ds, .str x => if ks.length ≤ listLine ∧ d.atom then (let m := storeD ks ds x d; some (.di m.1 m.2)) else none
  | _, _ => none
noncomputable def bindS (tg : Tg) (d : D) (S : Sta) : Option Sta := match tg with
  | .one i _ => some (S.put i (.fr d))
  | .two i _ j _ _ _ => match d with
    | .tup [a, b] => some ((S.put i (.fr a)).put j (.fr b))
    | _ => none
noncomputable def mutOp : BOp → Bool
  | .add | .sub => true
  | _ => false
noncomputable def notTup : X → Bool
  | .tup .. => false
  | _ => true
section
variable (nm fn : Nat → Str) (FT : List FE) (sc : Scope) (tp : Bool)
noncomputable def putK (i : Nat) : Bool := putOk sc (nm i)
noncomputable def swapOk (i : Nat) (e : X) : Bool := match e with
  | .lcomp _ _ sc' _ => !(sc'.names.any fun (n, k) => n == nm i && (k == .local || k == .cell))
  | .dcomp _ _ _ sc' _ => !(sc'.names.any fun (n, k) => n == nm i && (k == .local || k == .cell))
  | _ => true
noncomputable def loopF (f : Sta → Option (Fl × Sta)) (tg : Tg) : List D → Sta → Option (Fl × Sta)
  | [], S => some (.next, S)
  | d :: r, S => match bindS tg d S with
    | some S₁ => match f S₁ with
      | some (.next, S₂) => loopF f tg r S₂
      | some (.brk, S₂) => some (.next, S₂)
      | some (.ret v, S₂) => some (.ret v, S₂)
      | none => none
    | none => none
mutual
noncomputable def exS : Nat → Sm → Sta → Option (Fl × Sta)
  | 0, _, _ => none
  | n + 1, st, S => match st with
    | .asg i _ e _ => match ev nm fn FT n sc e tp (rhoOf S) with
      | some (d, false) => if putK nm sc i && swapOk nm i e then some (.next, S.put i (.fr d)) else none
      | _ => none
    | .own i _ e _ => match ev nm fn FT n sc e tp (rhoT S) with
      | some (d, false) => if putK nm sc i && swapOk nm i e then (slotOf d).map fun sl => (.next, S.put i sl) else none
      | _ => none
    | .unp ts _ _ e _ => match ev nm fn FT n sc e tp (rhoOf S) with
      | some (.tup ds, false) => if notTup e && ts.all (fun t => putK nm sc t.1) && decide ((ts.map (·.1)).Nodup) then (putMany S ts ds).map fun S' => (.next, S') else none
      | _ => none
    | .aug i _ op e _ => match S i, ev nm fn FT n sc e tp (rhoOf S) with
      | some (.fr a), some (b, _) => if putK nm sc i && mutOp op && a.atom then match binD op a b with
        | some d => some (.next, S.put i (.fr d))
        | none => none else none
      | _, _ => none
    | .ownL i _ _ ps _ => if putK nm sc i && decide (ps.length ≤ 100) then some (.next, S.put i (.ll (ps.map fun _ => []))) else none
    | .augI i _ k _ op e _ => match S i, ev nm fn FT n sc k tp (rhoOf S) with
      | some sl, some (kd, _) => match itemD sl.d kd, ev nm fn FT n sc e tp (rhoOf S) with
        | some a, some (b, _) => if sl.own && mutOp op && a.atom && kd.atom then match binD op a b with
          | some d => (setSlot sl kd d).map fun sl' => (.next, S.put i sl')
          | none => none else none
        | _, _ => none
      | _, _ => none
    | .setI i _ k _ e _ => match S i, ev nm fn FT n sc e tp (rhoOf S), ev nm fn FT n sc k tp (rhoOf S) with
      | some sl, some (d, _), some (kd, _) => if sl.own && d.atom && kd.atom then (setSlot sl kd d).map fun sl' => (.next, S.put i sl') else none
      | _, _, _ => none
    | .app i _ pa e pc _ => match S i, ev nm fn FT n sc e tp (rhoOf S) with
      | some (.li ds), some (d, _) => if d.atom && pa.endLine == pc.line && decide (ds.length ≤ listLine) then some (.next, S.put i (.li (ds ++ [d]))) else none
      | _, _ => none
    | .appI i _ k _ pa e pc _ => match S i, ev nm fn FT n sc k tp (rhoOf S), ev nm fn FT n sc e tp (rhoOf S) with
      | some (.ll dss), some (.int j, _), some (d, _) => if 0 ≤ j then match dss[j.toNat]? with
        | some ds => if d.atom && pa.endLine == pc.line && decide (ds.length ≤ listLine ∧ dss.length ≤ listLine) then some (.next, S.put i (.ll (dss.set j.toNat (ds ++ [d])))) else none
        | none => none else none
      | _, _, _ => none
    | .ite t a b _ => match evT nm fn FT n sc t tp (rhoOf S) with
      | some true => exB n a S
      | some false => exB n b S
      | none => none
    | .for tg src body _ => match evSrc nm fn FT n sc src tp (rhoOf S) with
      | some (ds, false, en) => if tg.two? == en && (tgVars tg).all (fun i => putK nm sc i) then loopF (exB n body) tg ds S else none
      | _ => none
    | .whl t body _ => exW n t body S
    | .ret e _ => match ev nm fn FT n sc e tp (rhoOf S) with
      | some (d, false) => some (.ret d, S)
      | _ => none
    | .brk _ => some (.brk, S)
    | .tri body _ _ _ => exB n body S
    | .frz i => match S i with
      | some sl => some (.next, S.put i (.fr sl.d))
      | none => none
    | .repIf i y _ _ _ _ _ _ q6 _ _ z _ _ q9 _ _ => match S i with
      | some (.fr (.str x)) => if putK nm sc i && q6.endLine == q9.line && decide (x.length ≤ strLine ∧ z.length ≤ 14 ∧ (y == z) = false) then some (.next, S.put i (.fr (.str (if Txt.contains x y then Txt.replace x y z else x)))) else none
      | _ => none
    | .raw _ => none
noncomputable def exB : Nat → Bl → Sta → Option (Fl × Sta)
  | 0, _, _ => none
  | n + 1, b, S => match b with
    | .nil => some (.next, S)
    | .cons a r => match exS n a S with
      | some (.next, S') => exB n r S'
      | x => x
noncomputable def exW : Nat → X → Bl → Sta → Option (Fl × Sta)
  | 0, _, _, _ => none
  | n + 1, t, body, S => match evT nm fn FT n sc t tp (rhoOf S) with
    | some true => match exB n body S with
      | some (.next, S') => exW n t body S'
      | some (.brk, S') => some (.next, S')
      | some (.ret d, S') => some (.ret d, S')
      | none => none
    | some false => some (.next, S)
    | none => none
end
end
end Mine
end
section
set_option maxRecDepth 100000
open PySem PySem.W PyProof.Rows PySem.Calls
set_option autoImplicit false
namespace Mine
namespace Q
section
variable {nm fn : Nat → Str} {FT : List FE} {n : Nat} {sc : Scope} {tp : Bool} {r : Rho} {S : Sta}
theorem asg (i : Nat) (pi : Pos) (e : X) (p : Pos) : exS nm fn FT sc tp (n + 1) (.asg i pi e p) S = (match ev nm fn FT n sc e tp (rhoOf S) with
      | some (d, false) => if putK nm sc i && swapOk nm i e then some (.next, S.put i (.fr d)) else none
      | _ => none) := rfl
theorem own (i : Nat) (pi : Pos) (e : X) (p : Pos) : exS nm fn FT sc tp (n + 1) (.own i pi e p) S = (match ev nm fn FT n sc e tp (rhoT S) with
      | some (d, false) => if putK nm sc i && swapOk nm i e then (slotOf d).map fun sl => (.next, S.put i sl) else none
      | _ => none) := rfl
theorem unp (ts : List (Nat × Pos)) (k : Nat) (pt : Pos) (e : X) (p : Pos) : exS nm fn FT sc tp (n + 1) (.unp ts k pt e p) S = (match ev nm fn FT n sc e tp (rhoOf S) with
      | some (.tup ds, false) => if notTup e && ts.all (fun t => putK nm sc t.1) && decide ((ts.map (·.1)).Nodup) then (putMany S ts ds).map fun S' => (.next, S') else none
      | _ => none) := rfl
theorem aug (i : Nat) (pi : Pos) (op : BOp) (e : X) (p : Pos) : exS nm fn FT sc tp (n + 1) (.aug i pi op e p) S = (match S i, ev nm fn FT n sc e tp (rhoOf S) with
      | some (.fr a), some (b, _) => if putK nm sc i && mutOp op && a.atom then match binD op a b with
        | some d => some (.next, S.put i (.fr d))
        | none => none else none
      | _, _ => none) := rfl
theorem ownL (i : Nat) (pi pl : Pos) (ps : List Pos) (p : Pos) : exS nm fn FT sc tp (n + 1) (.ownL i pi pl ps p) S = (if putK nm sc i && decide (ps.length ≤ 100) then some (.next, S.put i (.ll (ps.map fun _ => []))) else none) := rfl
theorem augI (i : Nat) (pi : Pos) (k : X) (ps : Pos) (op : BOp) (e : X) (p : Pos) : exS nm fn FT sc tp (n + 1) (.augI i pi k ps op e p) S = (match S i, ev nm fn FT n sc k tp (rhoOf S) with
      | some sl, some (kd, _) => match itemD sl.d kd, ev nm fn FT n sc e tp (rhoOf S) with
        | some a, some (b, _) => if sl.own && mutOp op && a.atom && kd.atom then match binD op a b with
          | some d => (setSlot sl kd d).map fun sl' => (.next, S.put i sl')
          | none => none else none
        | _, _ => none
      | _, _ => none) := rfl
theorem setI (i : Nat) (pi : Pos) (k : X) (ps : Pos) (e : X) (p : Pos) : exS nm fn FT sc tp (n + 1) (.setI i pi k ps e p) S = (match S i, ev nm fn FT n sc e tp (rhoOf S), ev nm fn FT n sc k tp (rhoOf S) with
      | some sl, some (d, _), some (kd, _) => if sl.own && d.atom && kd.atom then (setSlot sl kd d).map fun sl' => (.next, S.put i sl') else none
      | _, _, _ => none) := rfl
theorem app (i : Nat) (pi pa : Pos) (e : X) (pc p : Pos) : exS nm fn FT sc tp (n + 1) (.app i pi pa e pc p) S = (match S i, ev nm fn FT n sc e tp (rhoOf S) with
      | some (.li ds), some (d, _) => if d.atom && pa.endLine == pc.line && decide (ds.length ≤ listLine) then some (.next, S.put i (.li (ds ++ [d]))) else none
      | _, _ => none) := rfl
theorem appI (i : Nat) (pi : Pos) (k : X) (pk pa : Pos) (e : X) (pc p : Pos) : exS nm fn FT sc tp (n + 1) (.appI i pi k pk pa e pc p) S = (match S i, ev nm fn FT n sc k tp (rhoOf S), ev nm fn FT n sc e tp (rhoOf S) with
      | some (.ll dss), some (.int j, _), some (d, _) => if 0 ≤ j then match dss[j.toNat]? with
        | some ds => if d.atom && pa.endLine == pc.line && decide (ds.length ≤ listLine ∧ dss.length ≤ listLine) then some (.next, S.put i (.ll (dss.set j.toNat (ds ++ [d])))) else none
        | none => none else none
      | _, _, _ => none) := rfl
theorem sif (t : X) (a b : Bl) (p : Pos) : exS nm fn FT sc tp (n + 1) (.ite t a b p) S = (match evT nm fn FT n sc t tp (rhoOf S) with
      | some true => exB nm fn FT sc tp n a S
      | some false => exB nm fn FT sc tp n b S
      | none => none) := rfl
theorem sfor (tg : Tg) (src : X) (body : Bl) (p : Pos) : exS nm fn FT sc tp (n + 1) (.for tg src body p) S = (match evSrc nm fn FT n sc src tp (rhoOf S) with
      | some (ds, false, en) => if tg.two? == en && (tgVars tg).all (fun i => putK nm sc i) then loopF (exB nm fn FT sc tp n body) tg ds S else none
      | _ => none) := rfl
theorem swhl (t : X) (body : Bl) (p : Pos) : exS nm fn FT sc tp (n + 1) (.whl t body p) S = exW nm fn FT sc tp n t body S := rfl
theorem sret (e : X) (p : Pos) : exS nm fn FT sc tp (n + 1) (.ret e p) S = (match ev nm fn FT n sc e tp (rhoOf S) with
      | some (d, false) => some (.ret d, S)
      | _ => none) := rfl
theorem stri (body : Bl) (h : ExceptHandler) (hs : List ExceptHandler) (p : Pos) : exS nm fn FT sc tp (n + 1) (.tri body h hs p) S = exB nm fn FT sc tp n body S := rfl
theorem sfrz (i : Nat) : exS nm fn FT sc tp (n + 1) (.frz i) S = (match S i with
      | some sl => some (.next, S.put i (.fr sl.d))
      | none => none) := rfl
theorem bnil : exB nm fn FT sc tp (n + 1) .nil S = some (.next, S) := rfl
theorem bcons (a : Sm) (b : Bl) : exB nm fn FT sc tp (n + 1) (.cons a b) S = (match exS nm fn FT sc tp n a S with
      | some (.next, S') => exB nm fn FT sc tp n b S'
      | x => x) := rfl
theorem wstep (t : X) (body : Bl) : exW nm fn FT sc tp (n + 1) t body S = (match evT nm fn FT n sc t tp (rhoOf S) with
    | some true => match exB nm fn FT sc tp n body S with
      | some (.next, S') => exW nm fn FT sc tp n t body S'
      | some (.brk, S') => some (.next, S')
      | some (.ret d, S') => some (.ret d, S')
      | none => none
    | some false => some (.next, S)
    | none => none) := rfl
end
end Q
end Mine
end
section
set_option maxRecDepth 100000
open PySem PySem.W PyProof.Rows PySem.Calls
set_option autoImplicit false
namespace Mine
section
variable (prog : Program) (w : World)
inductive LL (h : Heap) : List Addr → List (List D) → Prop
  | nil : LL h [] []
  | cons {b : Addr} {bs : List Addr} {us : List Value} {m : Nat} {ds : List D} {dss : List (List D)} : h.get? b = some (sq "list" us m) → RL prog w h (fun _ => False) us ds → ds.all D.atom = true → LL h bs dss → LL h (b :: bs) (ds :: dss)
inductive SlotOk (h : Heap) (Wf : Addr → Prop) : Slot → Value → List Addr → Prop
  | fr {d : D} {u : Value} : R prog w h Wf u d → SlotOk h Wf (.fr d) u []
  | li {a : Addr} {us : List Value} {m : Nat} {ds : List D} : h.get? a = some (sq "list" us m) → RL prog w h (fun _ => False) us ds → ds.all D.atom = true → SlotOk h Wf (.li ds) (.ref a) [a]
  | di {a : Addr} {kvs : List (Str × Value)} {ks : List Str} {ds : List D} : (a == sysModules) = false → h.DictOf (strKind prog w) a kvs → ks = kvs.map (·.1) → RL prog w h (fun _ => False) (kvs.map (·.2)) ds → ds.all D.atom = true → SlotOk h Wf (.di ks ds) (.ref a) [a]
  | ll {a : Addr} {bs : List Addr} {m : Nat} {dss : List (List D)} : h.get? a = some (sq "list" (bs.map .ref) m) → LL prog w h bs dss → SlotOk h Wf (.ll dss) (.ref a) (a :: bs)
end
noncomputable def Wf (B : Addr → Prop) (ad : Nat → List Addr) : Addr → Prop := fun a => B a ∨ ∃ i, a ∈ ad i
noncomputable def Wb (B : Addr → Prop) (ad : Nat → List Addr) : Bool → Addr → Prop
  | true => B
  | false => Wf B ad
section
variable (prog : Program) (w : World) (nm : Nat → Str)
structure SI (env : Env) (sc : Scope) (B : Addr → Prop) (h : Heap) (S : Sta) (σ : Str → Option Value) (ad : Nat → List Addr) : Prop where
  sc : env.scope = sc
  fm : Fm env h σ
  sl : ∀ i x, S i = some x → seenK (env.kindOf (nm i)) ∧ ∃ u, σ (nm i) = some u ∧ SlotOk prog w h (Wf B ad) x u (ad i)
  no : ∀ i, S i = none → ad i = []
  nb : ∀ i a, a ∈ ad i → ¬ B a
  dj : ∀ i j a, a ∈ ad i → a ∈ ad j → i = j
  nd : ∀ i, (ad i).Nodup
  al : ∀ a, B a → ∃ o, h.get? a = some o
structure Gn (A : Around) (fr : List Env) (base h₀ : Heap) (N : Nat) (env : Env) (B : Addr → Prop) : Prop where
  cx : Cx A fr base h₀ (N + 1)
  frame : env.frame = some env.locals
  g : EnvG env
  lnew : h₀.get? env.locals = none
  fmB : ∀ a, Fm.all env a → B a
  frB : ∀ a, frA fr a → B a
end
section
variable {prog : Program} {w : World} {nm fn : Nat → Str} {FT : List FE} {base : Heap} {N : Nat} {A : Around} {fr : List Env} {env : Env} {sc : Scope} {B : Addr → Prop} {h₀ : Heap} {S : Sta} {σ : Str → Option Value} {ad : Nat → List Addr} {s : Shared} {tp : Bool}
theorem RL.atoms {h h' : Heap} {W W' : Addr → Prop} {vs : List Value} {ds : List D} (r : RL prog w h W vs ds) (hd : ds.all D.atom = true) : RL prog w h' W' vs ds := r.of_atoms hd
theorem LL.alive {h : Heap} {bs : List Addr} {dss : List (List D)} (x : LL prog w h bs dss) : ∀ b ∈ bs, ∃ o, h.get? b = some o := by
  induction x with
  | nil => intro b hb; cases hb
  | cons e _ _ _ ih =>
    intro b hb
    rcases List.mem_cons.mp hb with rfl | hb
    · exact ⟨_, e⟩
    · exact ih b hb
theorem SlotOk.alive {h : Heap} {Wf : Addr → Prop} {x : Slot} {u : Value} {as : List Addr} (y : SlotOk prog w h Wf x u as) : ∀ a ∈ as, ∃ o, h.get? a = some o := by
  cases y with
  | fr _ => intro a ha; cases ha
  | li e _ _ => intro a ha; rw [List.mem_singleton] at ha; subst ha; exact ⟨_, e⟩
  | di _ e _ _ _ => intro a ha; rw [List.mem_singleton] at ha; subst ha; obtain ⟨o, _, _, ho, _⟩ := e; exact ⟨o, ho⟩
  | ll e x =>
    intro a ha
    rcases List.mem_cons.mp ha with rfl | ha
    · exact ⟨_, e⟩
    · exact x.alive a ha
theorem LL.keep {h h' : Heap} {bs : List Addr} {dss : List (List D)} (x : LL prog w h bs dss) (k : ∀ b ∈ bs, ∀ o, h.get? b = some o → h'.get? b = some o) : LL prog w h' bs dss := by
  induction x with
  | nil => exact .nil
  | cons e r hd _ ih => exact .cons (k _ List.mem_cons_self _ e) (r.atoms hd) hd (ih fun b hb => k b (List.mem_cons_of_mem _ hb))
theorem SlotOk.keep {h h' : Heap} {W W' : Addr → Prop} {x : Slot} {u : Value} {as : List Addr} (y : SlotOk prog w h W x u as) (k : ∀ b ∈ as, ∀ o, h.get? b = some o → h'.get? b = some o)
    (kw : ∀ b o, ¬ W b → h.get? b = some o → h'.get? b = some o) (hW : ∀ a, W' a → W a ∨ h.get? a = none) : SlotOk prog w h' W' x u as := by
  cases y with
  | fr r => exact .fr (r.mono kw hW)
  | li e r hd => exact .li (k _ (List.mem_singleton.mpr rfl) _ e) (r.atoms hd) hd
  | di lo e e2 r hd =>
    obtain ⟨o, es, ep, ho, rest⟩ := e
    exact .di lo ⟨o, es, ep, k _ (List.mem_singleton.mpr rfl) _ ho, rest⟩ e2 (r.atoms hd) hd
  | ll e x => exact .ll (k _ List.mem_cons_self _ e) (x.keep fun b hb => k b (List.mem_cons_of_mem _ hb))
theorem LL.rl {h : Heap} {W : Addr → Prop} {bs : List Addr} {dss : List (List D)} (x : LL prog w h bs dss) (hb : ∀ b ∈ bs, ¬ W b) : RL prog w h W (bs.map .ref) (dss.map .lst) := by
  induction x with
  | nil => exact .nil
  | cons e r hd _ ih => exact .cons (.lst (hb _ List.mem_cons_self) e (r.atoms hd)) (ih fun b hb' => hb b (List.mem_cons_of_mem _ hb'))
theorem SlotOk.frE {h : Heap} {W : Addr → Prop} {x : Slot} {u : Value} {as : List Addr} (y : SlotOk prog w h W x u as) (ho : x.own = false) : as = [] := by
  cases y <;> first | rfl | cases ho
theorem SlotOk.value {h : Heap} {W W' : Addr → Prop} {x : Slot} {u : Value} {as : List Addr} (y : SlotOk prog w h W x u as) (hW : x.own = false → ∀ a, W' a → W a) (ha : ∀ a ∈ as, ¬ W' a) : R prog w h W' u x.d := by
  cases y with
  | fr r => exact r.mono (fun _ _ _ e => e) fun a q => .inl (hW rfl a q)
  | li e r hd => exact .lst (ha _ (List.mem_singleton.mpr rfl)) e (r.atoms hd)
  | di lo e e2 r hd => exact .dct (ha _ (List.mem_singleton.mpr rfl)) lo e e2 (r.atoms hd)
  | ll e x => exact .lst (ha _ List.mem_cons_self) e (x.rl fun b hb => ha b (List.mem_cons_of_mem _ hb))
theorem SI.mean (x : SI prog w nm env sc B s.heap S σ ad) : Mean prog w nm env s.heap (Wb B ad) σ (rhoOf S) := by
  intro i d t hi
  unfold rhoOf at hi
  split at hi
  · rename_i sl hs
    cases hi
    obtain ⟨a, u, b, c⟩ := x.sl i sl hs
    refine ⟨a, u, b, ?_⟩
    cases ho : sl.own with
    | true => exact c.value (fun q => by rw [ho] at q; cases q) fun a ha => x.nb i a ha
    | false =>
      have : ad i = [] := c.frE ho
      exact c.value (fun _ a q => q) (by rw [this]; intro a ha; cases ha)
  · cases hi
theorem SI.st (gn : Gn A fr base h₀ N env B) (x : SI prog w nm env sc B s.heap S σ ad) (keep : Kp (SS fr tp) h₀ s.heap) (tk : 0 ≤ s.toks) :
    St (prog := prog) (w := w) (nm := nm) (A.deeper env) (env :: fr) base N env sc (Wb B ad) (rhoOf S) s := by
  have cx := gn.cx.step keep
  obtain ⟨m, hn, _⟩ := x.fm.ns
  have hbn : base.get? env.locals = none := by
    cases q : base.get? env.locals with
    | none => rfl
    | some o => have := gn.cx.stay _ _ q; rw [gn.lnew] at this; cases this
  refine ⟨⟨cx.hd, Around.frames_deeper cx.frs, cx.stay, Heap.FunFrames.cons (by rw [gn.g.kind]; simp) gn.frame hn hbn cx.ff, ?_, ?_, cx.low⟩, ⟨gn.g, x.sc, σ, x.fm, x.mean⟩, ⟨fun a q => ?_, fun a q => .inl q, fun a q => ?_⟩, tk⟩
  · show A.depth + 1 + N ≤ 990; have := cx.dep; omega
  · show A.units + 3 + 16 * N + 200 ≤ cLine; have := cx.un; omega
  · unfold frA at q
    rw [List.filterMap_cons, gn.frame] at q
    rcases List.mem_cons.mp q with rfl | q
    · exact gn.fmB _ (.inl rfl)
    · exact gn.frB a q
  · rcases q with q | ⟨i, q⟩
    · exact x.al a q
    · cases hs : S i with
      | none => rw [x.no i hs] at q; cases q
      | some sl => obtain ⟨_, u, _, c⟩ := x.sl i sl hs; exact c.alive a q
theorem SI.step {h : Heap} (gn : Gn A fr base h₀ N env B) (x : SI prog w nm env sc B h S σ ad) {h' : Heap} (k : Kp (SS (env :: fr) tp) h h') : SI prog w nm env sc B h' S σ ad := by
  have hS : ∀ a, SS (env :: fr) tp a → B a := fun a q => by
    have q := q.2
    unfold frA at q
    rw [List.filterMap_cons, gn.frame] at q
    rcases List.mem_cons.mp q with rfl | q
    · exact gn.fmB _ (.inl rfl)
    · exact gn.frB a q
  exact ⟨x.sc, x.fm.step k, fun i y hi => let ⟨a, u, b, c⟩ := x.sl i y hi; ⟨a, u, b, c.keep (fun b hb o e => k.out b o (fun q => x.nb i b hb (hS b q)) e) (fun b o hb e => k.out b o (fun q => hb (.inl (hS b q))) e) fun a q => .inl q⟩, x.no, x.nb, x.dj, x.nd, fun a q => let ⟨o, e⟩ := x.al a q; let ⟨_, e'⟩ := k.all a o e; ⟨_, e'⟩⟩
structure Mv (tp : Bool) (fr : List Env) (env : Env) (h : Heap) (ad : Nat → List Addr) (h' : Heap) (ad' : Nat → List Addr) : Prop where
  kept : ∀ b o, ¬ Fm.at env (fun _ => True) b → ¬ SS fr tp b → (∀ i, b ∉ ad i) → h.get? b = some o → h'.get? b = some o
  slot : ∀ b o, ¬ Fm.at env (fun _ => True) b → (∀ i, b ∉ ad i) → h.get? b = some o → ∃ sl, h'.get? b = some { o with slots := sl }
  live : ∀ b o, (∀ i, b ∉ ad i) → h.get? b = some o → ∃ o', h'.get? b = some o'
  new : ∀ i a, a ∈ ad' i → (∃ j, a ∈ ad j) ∨ h.get? a = none
theorem Mv.refl {h : Heap} : Mv tp fr env h ad h ad := ⟨fun _ _ _ _ _ e => e, fun b o _ _ e => ⟨o.slots, e⟩, fun b o _ e => ⟨o, e⟩, fun i a q => .inl ⟨i, q⟩⟩
theorem Mv.trans {h h₁ h₂ : Heap} {ad₁ ad₂ : Nat → List Addr} (x : Mv tp fr env h ad h₁ ad₁) (y : Mv tp fr env h₁ ad₁ h₂ ad₂) : Mv tp fr env h ad h₂ ad₂ := by
  have key : ∀ b o, (∀ i, b ∉ ad i) → h.get? b = some o → ∀ i, b ∉ ad₁ i := fun b o hb e i q => by
    rcases x.new i b q with ⟨j, z⟩ | z
    · exact hb j z
    · rw [e] at z; cases z
  refine ⟨fun b o h1 h2 h3 e => y.kept b o h1 h2 (key b o h3 e) (x.kept b o h1 h2 h3 e), fun b o h1 h3 e => ?_, fun b o h3 e => ?_, fun i a q => ?_⟩
  · obtain ⟨sl, e'⟩ := x.slot b o h1 h3 e
    obtain ⟨sl', e''⟩ := y.slot b _ h1 (key b o h3 e) e'
    exact ⟨sl', e''⟩
  · obtain ⟨o', e'⟩ := x.live b o h3 e
    exact y.live b _ (key b o h3 e) e'
  · rcases y.new i a q with ⟨j, z⟩ | z
    · exact x.new j a z
    · cases hq : h.get? a with
      | none => exact .inr rfl
      | some o =>
        by_cases hj : ∃ j, a ∈ ad j
        · exact .inl hj
        · have hj' : ∀ j, a ∉ ad j := fun j q => hj ⟨j, q⟩
          exfalso
          obtain ⟨o', e⟩ := x.live a o hj' hq
          rw [e] at z; cases z
end
end Mine
end
section
set_option maxRecDepth 100000
open PySem PySem.W PyProof.Rows PySem.Calls
set_option autoImplicit false
namespace Mine
noncomputable def adPut (ad : Nat → List Addr) (i : Nat) (as : List Addr) : Nat → List Addr := fun k => if k = i then as else ad k
section
variable {prog : Program} {w : World} {nm fn : Nat → Str} {FT : List FE} {base : Heap} {N : Nat} {A : Around} {fr : List Env} {env : Env} {sc : Scope} {B : Addr → Prop} {h₀ : Heap} {S : Sta} {σ : Str → Option Value} {ad : Nat → List Addr} {s : Shared} {tp : Bool}
theorem SI.at {h : Heap} (x : SI prog w nm env sc B h S σ ad) {i : Nat} {sl : Slot} {u : Value} (hi : S i = some sl) (hu : σ (nm i) = some u) : SlotOk prog w h (Wf B ad) sl u (ad i) := by
  obtain ⟨_, v, hv, c⟩ := x.sl i sl hi
  rw [hu] at hv; cases hv; exact c
theorem SS_out (gn : Gn A fr base h₀ N env B) {b : Addr} (h1 : ¬ Fm.at env (fun _ => True) b) (h2 : ¬ SS fr tp b) : ¬ SS (env :: fr) tp b := fun q => by
  obtain ⟨q1, q⟩ := q
  unfold frA at q
  rw [List.filterMap_cons, gn.frame] at q
  rcases List.mem_cons.mp q with rfl | q
  · exact h1 (.inl rfl)
  · exact h2 ⟨q1, q⟩
theorem Mv.eval (gn : Gn A fr base h₀ N env B) {h h' : Heap} (k : Kp (SS (env :: fr) tp) h h') : Mv tp fr env h ad h' ad :=
  ⟨fun b o h1 h2 _ e => k.out b o (SS_out gn h1 h2) e, fun b o _ _ e => k.all b o e, fun b o _ e => let ⟨_, e'⟩ := k.all b o e; ⟨_, e'⟩, fun i a q => .inl ⟨i, q⟩⟩
theorem atB (gn : Gn A fr base h₀ N env B) {T : Str → Prop} {a : Addr} (q : Fm.at env T a) : B a := gn.fmB a (q.imp id fun ⟨x, _, h1, h2⟩ => ⟨x, .inl h1, h2⟩)
theorem store_slot {A' : Around} (gn : Gn A fr base h₀ N env B) (x : SI prog w nm env sc B s.heap S σ ad) (inj : ∀ i j, nm i = nm j → i = j) {i : Nat} (hp : putOk sc (nm i) = true) {sl : Slot} {u : Value} {as : List Addr}
    (hsl : SlotOk prog w s.heap (Wf B (adPut ad i as)) sl u as) (hB : ∀ a ∈ as, ¬ B a) (hd : ∀ k, k ≠ i → ∀ a ∈ as, a ∉ ad k) (hn : as.Nodup)
    (hlift : ∀ k y v, k ≠ i → S k = some y → σ (nm k) = some v → SlotOk prog w s.heap (Wf B ad) y v (ad k) → SlotOk prog w s.heap (Wf B (adPut ad i as)) y v (ad k)) :
    Ok (model prog w) A' (storeName env (nm i) u) s (fun _ h' => SI prog w nm env sc B h' (S.put i sl) (fun y => if y = nm i then some u else σ y) (adPut ad i as) ∧
      (∀ b o, ¬ Fm.at env (fun _ => True) b → s.heap.get? b = some o → h'.get? b = some o) ∧ (∀ b o, s.heap.get? b = some o → ∃ o', h'.get? b = some o')) := by
  refine (store_ok (T := fun _ => True) trivial gn.g x.fm (putOk_kind x.sc hp)).mono fun _ h' q => ?_
  obtain ⟨f, k⟩ := q
  have live : ∀ b o, s.heap.get? b = some o → ∃ o', h'.get? b = some o' := fun b o e => by
    by_cases hb : Fm.at env (fun _ => True) b
    · exact f.alive hb
    · exact ⟨o, k b o hb e⟩
  have kWf : ∀ {ad' : Nat → List Addr} b o, ¬ Wf B ad' b → s.heap.get? b = some o → h'.get? b = some o := fun {ad'} b o hb e => k b o (fun q => hb (.inl (atB gn q))) e
  refine ⟨⟨x.sc, f, fun j y hj => ?_, fun j hj => ?_, fun j a ha => ?_, fun j l a h1 h2 => ?_, fun j => ?_, fun a q => let ⟨o, e⟩ := x.al a q; live a o e⟩, k, live⟩
  · unfold Sta.put at hj
    by_cases hji : j = i
    · subst hji
      rw [if_pos rfl] at hj; cases hj
      refine ⟨putOk_seen x.sc hp, u, if_pos rfl, ?_⟩
      have : adPut ad j as j = as := if_pos rfl
      rw [this]
      exact hsl.keep (fun b hb o e => k b o (fun q => hB b hb (atB gn q)) e) kWf fun a q => .inl q
    · rw [if_neg hji] at hj
      obtain ⟨a, v, b, c⟩ := x.sl j y hj
      refine ⟨a, v, (if_neg fun e => hji (inj _ _ e)).trans b, ?_⟩
      have : adPut ad i as j = ad j := if_neg hji
      rw [this]
      exact (hlift j y v hji hj b c).keep (fun b hb o e => k b o (fun q => x.nb j b hb (atB gn q)) e) kWf fun a q => .inl q
  · unfold Sta.put at hj
    by_cases hji : j = i
    · rw [if_pos hji] at hj; cases hj
    · rw [if_neg hji] at hj
      exact (if_neg hji).trans (x.no j hj)
  · unfold adPut at ha
    split at ha
    · exact hB a ha
    · exact x.nb j a ha
  · unfold adPut at h1 h2
    split at h1 <;> split at h2
    · rename_i e1 e2; rw [e1, e2]
    · rename_i e1 e2; exact absurd h2 (hd l e2 a h1)
    · rename_i e1 e2; exact absurd h1 (hd j e1 a h2)
    · exact x.dj j l a h1 h2
  · unfold adPut; split
    · exact hn
    · exact x.nd j
theorem Mv.store {hs h h' : Heap} {i : Nat} {as : List Addr} (x : Mv tp fr env hs ad h ad) (k : ∀ b o, ¬ Fm.at env (fun _ => True) b → h.get? b = some o → h'.get? b = some o) (live : ∀ b o, h.get? b = some o → ∃ o', h'.get? b = some o')
    (hnew : ∀ a ∈ as, (∃ j, a ∈ ad j) ∨ hs.get? a = none) : Mv tp fr env hs ad h' (adPut ad i as) :=
  ⟨fun b o h1 h2 h3 e => k b o h1 (x.kept b o h1 h2 h3 e), fun b o h1 h3 e => let ⟨sl, e'⟩ := x.slot b o h1 h3 e; ⟨sl, k b _ h1 e'⟩, fun b o h3 e => let ⟨o', e'⟩ := x.live b o h3 e; live b o' e', fun j a q => by
    unfold adPut at q
    split at q
    · exact hnew a q
    · exact .inl ⟨j, q⟩⟩
theorem Wf.put0 {i : Nat} {a : Addr} (q : Wf B (adPut ad i []) a) : Wf B ad a := q.imp id fun ⟨j, z⟩ => by
  unfold adPut at z
  by_cases c : j = i
  · rw [if_pos c] at z; cases z
  · rw [if_neg c] at z; exact ⟨j, z⟩
theorem store_fr {A' : Around} (gn : Gn A fr base h₀ N env B) (x : SI prog w nm env sc B s.heap S σ ad) (inj : ∀ i j, nm i = nm j → i = j) {i : Nat} (hp : putOk sc (nm i) = true) {d : D} {u : Value} (r : R prog w s.heap (Wf B ad) u d) {Q : Unit → Shared → Prop} {E : Value → Shared → Prop}
    (c : ∀ σ' h' tk, s.toks ≤ tk → SI prog w nm env sc B h' (S.put i (.fr d)) σ' (adPut ad i []) → Mv tp fr env s.heap ad h' (adPut ad i []) → (∀ b o, ¬ Fm.at env (fun _ => True) b → s.heap.get? b = some o → h'.get? b = some o) → Q () (up s h' tk)) :
    wpAny (model prog w) A' (storeName env (nm i) u) Q E s :=
  (store_slot (sl := .fr d) (as := []) gn x inj hp (.fr (r.mono (fun _ _ _ e => e) fun a q => .inl q.put0)) (fun a ha => nomatch ha) (fun k _ a ha => nomatch ha) .nil fun k y v _ _ _ c => c.keep (fun _ _ _ e => e) (fun _ _ _ e => e) fun a q => .inl q.put0).wp2 fun _ h' tk hn y k =>
    c _ h' tk hn y (Mv.refl.store k.1 k.2 fun a ha => nomatch ha) k.1
theorem SI.slE {h : Heap} (x : SI prog w nm env sc B h S σ ad) {i : Nat} {sl : Slot} (hi : S i = some sl) {G : Prop} (k : ∀ u, σ (nm i) = some u → SlotOk prog w h (Wf B ad) sl u (ad i) → G) : G :=
  let ⟨_, u, a, b⟩ := x.sl i sl hi; k u a b
theorem SI.liE {h : Heap} (x : SI prog w nm env sc B h S σ ad) {i : Nat} {ds : List D} (hi : S i = some (.li ds)) {G : Prop} (k : ∀ a us m, σ (nm i) = some (.ref a) → ad i = [a] → h.get? a = some (sq "list" us m) → RL prog w h (fun _ => False) us ds → ds.all D.atom = true → G) : G :=
  x.slE hi fun u hu c => by
    generalize ad i = as at c k
    cases c with | li a b c => exact k _ _ _ hu rfl a b c
theorem SI.llE {h : Heap} (x : SI prog w nm env sc B h S σ ad) {i : Nat} {dss : List (List D)} (hi : S i = some (.ll dss)) {G : Prop} (k : ∀ a bs m, σ (nm i) = some (.ref a) → ad i = a :: bs → h.get? a = some (sq "list" (bs.map .ref) m) → LL prog w h bs dss → G) : G :=
  x.slE hi fun u hu c => by
    generalize ad i = as at c k
    cases c with | ll a b => exact k _ _ _ hu rfl a b
theorem SI.frE {h : Heap} (x : SI prog w nm env sc B h S σ ad) {i : Nat} {d : D} (hi : S i = some (.fr d)) {G : Prop} (k : ∀ u, σ (nm i) = some u → R prog w h (Wf B ad) u d → G) : G :=
  x.slE hi fun u hu c => by
    generalize ad i = as at c
    cases c with | fr a => exact k _ hu a
theorem own_change (x : SI prog w nm env sc B s.heap S σ ad) {i : Nat} {sl sl' : Slot} {u : Value} {h' : Heap} (hi : S i = some sl) (hu : σ (nm i) = some u) (gn : Gn A fr base h₀ N env B)
    (k : ∀ b o, b ∉ ad i → s.heap.get? b = some o → h'.get? b = some o) (hsl : SlotOk prog w h' (Wf B ad) sl' u (ad i)) : SI prog w nm env sc B h' (S.put i sl') σ ad ∧ Mv tp fr env s.heap ad h' ad := by
  have hB : ∀ b, B b → b ∉ ad i := fun b q z => x.nb i b z q
  refine ⟨⟨x.sc, x.fm.keep fun a o q e => k a o (hB a (gn.fmB a q)) e, fun j y hj => ?_, fun j hj => ?_, x.nb, x.dj, x.nd, fun a q => let ⟨o, e⟩ := x.al a q; ⟨o, k a o (hB a q) e⟩⟩,
    ⟨fun b o _ _ h3 e => k b o (h3 i) e, fun b o _ h3 e => ⟨o.slots, k b o (h3 i) e⟩, fun b o h3 e => ⟨o, k b o (h3 i) e⟩, fun j a q => .inl ⟨j, q⟩⟩⟩
  · unfold Sta.put at hj
    by_cases hji : j = i
    · subst hji
      rw [if_pos rfl] at hj; cases hj
      exact ⟨(x.sl j sl hi).1, u, hu, hsl⟩
    · rw [if_neg hji] at hj
      obtain ⟨a, v, b, c⟩ := x.sl j y hj
      exact ⟨a, v, b, c.keep (fun b hb o e => k b o (fun z => hji (x.dj j i b hb z)) e) (fun b o hb e => k b o (fun z => hb (.inr ⟨i, z⟩)) e) fun a q => .inl q⟩
  · unfold Sta.put at hj
    by_cases hji : j = i
    · rw [if_pos hji] at hj; cases hj
    · rw [if_neg hji] at hj; exact x.no j hj
theorem freeze (x : SI prog w nm env sc B s.heap S σ ad) {i : Nat} {sl : Slot} (hi : S i = some sl) : SI prog w nm env sc B s.heap (S.put i (.fr sl.d)) σ (adPut ad i []) ∧ Mv tp fr env s.heap ad s.heap (adPut ad i []) := by
  have hW : ∀ a, Wf B (adPut ad i []) a → Wf B ad a := fun a q => q.imp id fun ⟨j, z⟩ => by
    unfold adPut at z
    split at z
    · cases z
    · exact ⟨j, z⟩
  refine ⟨⟨x.sc, x.fm, fun j y hj => ?_, fun j hj => ?_, fun j a ha => ?_, fun j l a h1 h2 => ?_, fun j => ?_, x.al⟩, ⟨fun _ _ _ _ _ e => e, fun b o _ _ e => ⟨o.slots, e⟩, fun b o _ e => ⟨o, e⟩, fun j a q => ?_⟩⟩
  · unfold Sta.put at hj
    by_cases hji : j = i
    · subst hji
      rw [if_pos rfl] at hj; cases hj
      obtain ⟨a, u, b, c⟩ := x.sl j sl hi
      refine ⟨a, u, b, ?_⟩
      have : adPut ad j [] j = [] := if_pos rfl
      rw [this]
      refine .fr (c.value (fun _ a q => hW a q) fun a ha q => ?_)
      rcases q with q | ⟨l, q⟩
      · exact x.nb j a ha q
      · unfold adPut at q
        split at q
        · cases q
        · rename_i hl; exact hl (x.dj l j a q ha)
    · rw [if_neg hji] at hj
      obtain ⟨a, v, b, c⟩ := x.sl j y hj
      refine ⟨a, v, b, ?_⟩
      have : adPut ad i [] j = ad j := if_neg hji
      rw [this]
      exact c.keep (fun _ _ _ e => e) (fun _ _ _ e => e) fun a q => .inl (hW a q)
  · unfold Sta.put at hj
    by_cases hji : j = i
    · rw [if_pos hji] at hj; cases hj
    · rw [if_neg hji] at hj
      exact (if_neg hji).trans (x.no j hj)
  · unfold adPut at ha
    split at ha
    · cases ha
    · exact x.nb j a ha
  · unfold adPut at h1 h2
    split at h1 <;> split at h2
    · cases h1
    · cases h1
    · cases h2
    · exact x.dj j l a h1 h2
  · unfold adPut; split
    · exact .nil
    · exact x.nd j
  · unfold adPut at q
    split at q
    · cases q
    · exact .inl ⟨j, q⟩
structure Go (A : Around) (fr : List Env) (base h₀ : Heap) (N : Nat) (env : Env) (B : Addr → Prop) (tp : Bool) (h : Heap) (ad : Nat → List Addr) : Prop where
  gn : Gn A fr base h₀ N env B
  keep : Kp (SS fr tp) h₀ h
  nw : ∀ i a, a ∈ ad i → h₀.get? a = none
  fmN : ∀ a, Fm.at env (fun _ => True) a → h₀.get? a = none
theorem Go.move {h h' : Heap} {ad' : Nat → List Addr} (g : Go A fr base h₀ N env B tp h ad) (m : Mv tp fr env h ad h' ad') : Go A fr base h₀ N env B tp h' ad' := by
  have h1 : ∀ b o, h₀.get? b = some o → ¬ Fm.at env (fun _ => True) b := fun b o e q => by rw [g.fmN b q] at e; cases e
  have h2 : ∀ b o, h₀.get? b = some o → ∀ i, b ∉ ad i := fun b o e i q => by rw [g.nw i b q] at e; cases e
  refine ⟨g.gn, ⟨fun b o hS e => m.kept b o (h1 b o e) hS (h2 b o e) (g.keep.out b o hS e), fun b o e => ?_⟩, fun i a q => ?_, g.fmN⟩
  · obtain ⟨sl, e'⟩ := g.keep.all b o e
    obtain ⟨sl', e''⟩ := m.slot b _ (h1 b o e) (h2 b o e) e'
    exact ⟨sl', e''⟩
  · rcases m.new i a q with ⟨j, z⟩ | z
    · exact g.nw j a z
    · exact g.keep.alive z
end
end Mine
end
section
set_option maxRecDepth 100000
open PySem PySem.W PyProof.Rows PySem.Calls
set_option autoImplicit false
namespace Mine
section
variable {prog : Program} {w : World} {nm fn : Nat → Str} {FT : List FE} {base : Heap} {N : Nat} {A : Around} {fr : List Env} {env : Env} {sc : Scope} {B : Addr → Prop} {h₀ : Heap} {S : Sta} {σ : Str → Option Value} {ad : Nat → List Addr} {s : Shared} {tp : Bool}
theorem Gn.more {M : Addr → Prop} (g : Gn A fr base h₀ N env B) : Gn A fr base h₀ N env (fun a => B a ∨ M a) := ⟨g.cx, g.frame, g.g, g.lnew, fun a q => .inl (g.fmB a q), fun a q => .inl (g.frB a q)⟩
theorem SI.lift {M : Addr → Prop} {h h' : Heap} (gn : Gn A fr base h₀ N env B) (x : SI prog w nm env sc B h S σ ad) (k : Kp (SS (env :: fr) tp) h h') (hM : ∀ a, M a → h.get? a = none ∧ ∃ o, h'.get? a = some o) :
    SI prog w nm env sc (fun a => B a ∨ M a) h' S σ ad := by
  have y := SI.step gn x k
  have hW : ∀ a, Wf (fun a => B a ∨ M a) ad a → Wf B ad a ∨ h.get? a = none := fun a q => by
    rcases q with (q | q) | q
    · exact .inl (.inl q)
    · exact .inr (hM a q).1
    · exact .inl (.inr q)
  have hS : ∀ a, SS (env :: fr) tp a → B a := fun a q => by
    have q := q.2
    unfold frA at q
    rw [List.filterMap_cons, gn.frame] at q
    rcases List.mem_cons.mp q with rfl | q
    · exact gn.fmB _ (.inl rfl)
    · exact gn.frB a q
  refine ⟨x.sc, y.fm, fun i z hi => ?_, x.no, fun i a ha q => ?_, x.dj, x.nd, fun a q => ?_⟩
  · obtain ⟨a, u, b, c⟩ := x.sl i z hi
    exact ⟨a, u, b, c.keep (fun b hb o e => k.out b o (fun q => x.nb i b hb (hS b q)) e) (fun b o hb e => k.out b o (fun q => hb (.inl (hS b q))) e) hW⟩
  · rcases q with q | q
    · exact x.nb i a ha q
    · cases hs : S i with
      | none => rw [x.no i hs] at ha; cases ha
      | some sl =>
        obtain ⟨_, u, _, c⟩ := x.sl i sl hs
        obtain ⟨o, ho⟩ := c.alive a ha
        rw [(hM a q).1] at ho; cases ho
  · rcases q with q | q
    · exact y.al a q
    · exact (hM a q).2
theorem SI.weak {M : Addr → Prop} {h h' : Heap} (x : SI prog w nm env sc (fun a => B a ∨ M a) h S σ ad) (gn : Gn A fr base h₀ N env B) (k : ∀ b o, ¬ M b → h.get? b = some o → h'.get? b = some o) (hMB : ∀ a, M a → ¬ B a) :
    SI prog w nm env sc B h' S σ ad := by
  refine ⟨x.sc, x.fm.keep fun a o q e => k a o (fun z => hMB a z (gn.fmB a q)) e, fun i z hi => ?_, x.no, fun i a ha q => x.nb i a ha (.inl q), x.dj, x.nd, fun a q => ?_⟩
  · obtain ⟨a, u, b, c⟩ := x.sl i z hi
    exact ⟨a, u, b, c.keep (fun b hb o e => k b o (fun q => x.nb i b hb (.inr q)) e) (fun b o hb e => k b o (fun q => hb (.inl (.inr q))) e) fun a q => .inl (q.imp .inl id)⟩
  · obtain ⟨o, e⟩ := x.al a (.inl q)
    exact ⟨o, k a o (fun z => hMB a z q) e⟩
variable (am : Am prog w nm fn FT base N)
include am
theorem assign_plain {n : Nat} {e : X} {i : Nat} {pi p : Pos} {W : Bool → Addr → Prop} {ρ : Rho} {d : D} {P : Flow → Heap → Prop} {PP : (Addr → Prop) → Heap → Prop}
    (st : St (prog := prog) (w := w) (nm := nm) (A.deeper env) (env :: fr) base N env sc W ρ s) (he : ev nm fn FT n sc e tp ρ = some (d, false)) (hfm : ∃ σ, Fm env s.heap σ)
    (hfin : ∀ (M : Addr → Prop) u h' tk, s.toks ≤ tk → (∀ a, M a → s.heap.get? a = none ∧ ∃ o, h'.get? a = some o) → Kp (SS (env :: fr) tp) s.heap h' → R prog w h' (fun a => W false a ∨ M a) u d →
      Ok (model prog w) (A.deeper env) (storeName env (nm i) u) (up s h' tk) (fun _ h'' => (∀ b o, ¬ Fm.at env (fun _ => True) b → h'.get? b = some o → h''.get? b = some o) ∧ PP M h''))
    (hpost : ∀ M h'' h''', (∀ a, M a → s.heap.get? a = none) → PP M h'' → (∀ b o, ¬ M b → h''.get? b = some o → h'''.get? b = some o) → P .next h''')
    (hs : swapsWith (e.py nm fn) (some (.Name (nm i) pi)) p.line env = pure false) :
    Ok (model prog w) (A.deeper env) (exec (.Assign [.Name (nm i) pi] (e.py nm fn) p) env) s P := by
  refine wpAny_Assign_Name (((sound am n n (Nat.le_refl _)).ev _ _ _ _ _ he _ _ _ _ _ st).wp fun u h' tk hn q => ?_) hs
  exact (hfin (fun _ => False) u h' tk hn (fun a q => q.elim) q.1 (q.2.mono (fun _ _ _ e => e) fun a q => .inl (q.elim id False.elim))).wp fun _ h'' tk' _ q => ⟨_, _, rfl, hpost (fun _ => False) h'' h'' (fun a q => q.elim) q.2 fun _ _ _ e => e⟩
theorem assign_used {n : Nat} {cx : Expr} {scope : Scope} {g : Comprehension} {gs : List Comprehension} {newAcc : Sem Value} {e : X} {i : Nat} {pi p : Pos} {W : Bool → Addr → Prop} {ρ : Rho} {d : D} {P : Flow → Heap → Prop} {PP : (Addr → Prop) → Heap → Prop}
    (st : St (prog := prog) (w := w) (nm := nm) (A.deeper env) (env :: fr) base N env sc W ρ s) (he : ev nm fn FT n sc e tp ρ = some (d, false)) (hfm : ∃ σ, Fm env s.heap σ)
    (hfin : ∀ (M : Addr → Prop) u h' tk, s.toks ≤ tk → (∀ a, M a → s.heap.get? a = none ∧ ∃ o, h'.get? a = some o) → Kp (SS (env :: fr) tp) s.heap h' → R prog w h' (fun a => W false a ∨ M a) u d →
      Ok (model prog w) (A.deeper env) (storeName env (nm i) u) (up s h' tk) (fun _ h'' => (∀ b o, ¬ Fm.at env (fun _ => True) b → h'.get? b = some o → h''.get? b = some o) ∧ PP M h''))
    (hpost : ∀ M h'' h''', (∀ a, M a → s.heap.get? a = none) → PP M h'' → (∀ b o, ¬ M b → h''.get? b = some o → h'''.get? b = some o) → P .next h''')
    (hcx : e.py nm fn = cx) (hc : compOk sc scope = true) (hcl : clausesOf cx = g :: gs) (hfo : ∀ x, foldedSetIterable g.iter env x = pure x)
    (hev : ∀ use, evalThenUse cx env use = (do let _ ← comprehension cx scope env (firstIterPos (g :: gs) cx.pos) newAcc false (eval g.iter env) (some use)))
    (core : ∀ (RR : Value → Addr → Result → Shared → Prop) (E : Value → Shared → Prop),
        (∀ Z C h' tk, s.toks ≤ tk → s.heap.get? Z = none → s.heap.get? C = none → Z ≠ C → (∃ m, h'.Ns C m) → Kp (SS (env :: fr) tp) s.heap h' → R prog w h' (fun a => W false a ∨ a = C) (.ref Z) d → RR (.ref Z) C (.ok .next) (up s h' tk)) →
        wpAny (model prog w) (A.deeper env) (eval g.iter env) (fun x s₁ => wpAny (model prog w) (A.deeper env) (pyIter x) (fun it s₂ => wpAny (model prog w) (A.deeper env) newAcc (fun acc s₃ => wpAny (model prog w) (A.deeper env) (newFunctionEnv scope env.globals (clos env scope.names []) [] env.qual none .none (some env)) (fun cenv s₄ =>
          codeAny (model prog w) (A.deeper env) (.compStart cx 0 it acc { cenv with scope := relabel scope env }) (RR acc cenv.locals) s₄) E s₃) E s₂) E s₁) E s)
    (hs : swapsWith (e.py nm fn) (some (.Name (nm i) pi)) p.line env = pure true) :
    Ok (model prog w) (A.deeper env) (exec (.Assign [.Name (nm i) pi] (e.py nm fn) p) env) s P := by
  obtain ⟨σ, f⟩ := hfm
  show wpAny _ _ _ _ _ _
  rw [exec_Assign_Name_used _ _ _ _ hs, hcx, hev]
  refine wpAny_bind (wpAny_standAt (wpAny_bind ?_))
  obtain ⟨hk, hd, hf⟩ := compOk_of hc
  refine wpAny_bind (wpAny_mono (wpAny_comprehension_free (use := some (assign (.Name (nm i) pi) env)) (Q := fun _ s' => ∃ h' tk, s' = (up s h' tk) ∧ P .next h') hcl hfo (closureFor_eq (compFree f (by rw [st.e.sc]; exact hc))) hk (fun x hx hl => mem_lookup hd (by rw [← hl]; exact hx)) ?_) (fun _ s' q => wpAny_pure (wpAny_pure q)) fun _ _ q => q)
  refine core _ _ fun Z C h' tk hn hZ hC hne hns k r => ?_
  obtain ⟨m, hm⟩ := hns
  have hCat : ¬ Fm.at env (fun _ => True) C := fun q => by obtain ⟨o, ho⟩ := f.alive q; rw [hC] at ho; cases ho
  show wpAny _ _ (assign (.Name (nm i) pi) env (.ref Z)) _ _ _
  refine wpAny_assign_Name ((hfin (fun a => a = C) (.ref Z) h' tk hn (fun a q => by subst q; exact ⟨hC, by obtain ⟨o, _, _, ho, _⟩ := hm; exact ⟨o, ho⟩⟩) k r).wp2 fun _ h'' tk' _ q1 q2 => ?_)
  refine ⟨m, hm.at' fun o e => q1 C o hCat e, fun h''' hs' => ⟨h''', tk', rfl, hpost (fun a => a = C) h'' h''' (fun a q => q ▸ hC) q2 fun b o hb e => (hs'.2 b hb).trans e⟩⟩
omit am in
@[elab_as_elim] theorem asgCases (nm fn : Nat → Str) {m : X → Prop} (h1 : ∀ el gs sc' p, m (.lcomp el gs sc' p)) (h2 : ∀ kx vx gs sc' p, m (.dcomp kx vx gs sc' p)) (h3 : ∀ e, (∀ (i : Nat) (pi : Pos) (l : Nat) (env : Env), swapsWith (X.py nm fn e) (some (.Name (nm i) pi)) l env = pure false) → m e) (e : X) : m e := by
  cases e with
  | lcomp => exact h1 _ _ _ _
  | dcomp => exact h2 _ _ _ _ _
  | _ => exact h3 _ fun _ _ _ _ => rfl
theorem assign_any {n : Nat} {e : X} {i : Nat} {pi p : Pos} {W : Bool → Addr → Prop} {ρ : Rho} {d : D} {P : Flow → Heap → Prop} {PP : (Addr → Prop) → Heap → Prop}
    (st : St (prog := prog) (w := w) (nm := nm) (A.deeper env) (env :: fr) base N env sc W ρ s) (he : ev nm fn FT n sc e tp ρ = some (d, false)) (hfm : ∃ σ, Fm env s.heap σ)
    (hfin : ∀ (M : Addr → Prop) u h' tk, s.toks ≤ tk → (∀ a, M a → s.heap.get? a = none ∧ ∃ o, h'.get? a = some o) → Kp (SS (env :: fr) tp) s.heap h' → R prog w h' (fun a => W false a ∨ M a) u d →
      Ok (model prog w) (A.deeper env) (storeName env (nm i) u) (up s h' tk) (fun _ h'' => (∀ b o, ¬ Fm.at env (fun _ => True) b → h'.get? b = some o → h''.get? b = some o) ∧ PP M h''))
    (hpost : ∀ M h'' h''', (∀ a, M a → s.heap.get? a = none) → PP M h'' → (∀ b o, ¬ M b → h''.get? b = some o → h'''.get? b = some o) → P .next h''') :
    Ok (model prog w) (A.deeper env) (exec (.Assign [.Name (nm i) pi] (e.py nm fn) p) env) s P := by
  have hsf : env.scope = sc := st.e.sc
  revert he
  refine asgCases nm fn (fun el gs sc' pe he => ?_) (fun kx vx gs sc' pe he => ?_) (fun e h he => assign_plain am st he hfm hfin hpost (h i pi _ env)) e
  · cases n with
    | zero => exact optE he
    | succ n =>
    have hc : compOk sc sc' = true := I.lcomp (m := fun _ => compOk sc sc' = true) he fun hc _ _ _ _ _ _ _ _ _ => hc
    cases gs with
    | nil => exact (I.lcomp (m := fun _ => False) he fun _ _ _ _ _ _ h => by cases n <;> exact optE h).elim
    | cons t src ifs rest =>
    cases hb : (env.blockKind == .function && env.kindOf (nm i) == some .local && pi.line == pe.line && !(sc'.names.any fun (n, k) => n == nm i && (k == .local || k == .cell))) with
    | false => exact assign_plain am st he hfm hfin hpost (by show pure _ = _; exact congrArg pure hb)
    | true =>
      refine assign_used am st he hfm hfin hpost (cx := (X.lcomp el (.cons t src ifs rest) sc' pe).py nm fn) (scope := sc') (g := ⟨t.py nm, src.py nm fn, ifs.py nm fn, 0⟩) (gs := rest.py nm fn) (newAcc := newList []) rfl hc rfl (fun x => folded_py src x) (fun u => rfl) (fun RR E hRR => ?_) (by show pure _ = _; exact congrArg pure hb)
      exact lcomp_core am (sound am n) he st fun Z C h' tk hn hZ hC hne hns k r _ => hRR Z C h' tk hn hZ hC hne hns k r
  · cases n with
    | zero => exact optE he
    | succ n =>
    have hg : compOk sc sc' = true ∧ gs.single = true := I.dcomp (m := fun _ => compOk sc sc' = true ∧ gs.single = true) he fun hc _ hs _ _ _ _ _ _ _ _ _ => ⟨hc, hs⟩
    rcases gs with _ | ⟨t, src, ifs, _ | _⟩
    · cases hg.2
    rotate_left
    · cases hg.2
    cases hb : (env.blockKind == .function && env.kindOf (nm i) == some .local && pi.line == pe.line && !(sc'.names.any fun (n, k) => n == nm i && (k == .local || k == .cell))) with
    | false => exact assign_plain am st he hfm hfin hpost (by show pure _ = _; exact congrArg pure hb)
    | true =>
      refine assign_used am st he hfm hfin hpost (cx := (X.dcomp kx vx (.cons t src ifs .nil) sc' pe).py nm fn) (scope := sc') (g := ⟨t.py nm, src.py nm fn, ifs.py nm fn, 0⟩) (gs := []) (newAcc := newDict) rfl hg.1 rfl (fun x => folded_py src x) (fun u => rfl) (fun RR E hRR => ?_) (by show pure _ = _; exact congrArg pure hb)
      exact dcomp_core am (sound am n) he st fun Z C h' tk hn hZ hC hne hns k r _ => hRR Z C h' tk hn hZ hC hne hns k r
end
end Mine
end
section
set_option maxRecDepth 100000
open PySem PySem.W PyProof.Rows PySem.Calls
set_option autoImplicit false
namespace Mine
namespace J
section
variable {δ : Type} {d : δ} {G : Prop} {A B C : Option V} {L : Option Slot}
theorem mF {f : D → Option δ} (h : (match A with | some (d, false) => f d | _ => none) = some d) (k : ∀ x, A = some (x, false) → f x = some d → G) : G := by
  rcases A with _ | ⟨x, _ | _⟩
  · exact optE h
  · exact k x rfl h
  · exact optE h
theorem mTF {f : List D → Option δ} (h : (match A with | some (.tup ds, false) => f ds | _ => none) = some d) (k : ∀ ds, A = some (.tup ds, false) → f ds = some d → G) : G := by
  rcases A with _ | ⟨x, t⟩
  · exact optE h
  have e : (match some (x, t) with | some (.tup ds, false) => f ds | _ => none) = (I.tupD x).bind (fun ds => if t then none else f ds) := by
    clear h k; cases x <;> cases t <;> rfl
  refine bindE (e.symm.trans h) fun ds h1 h => ?_
  cases t with
  | true => exact optE h
  | false => exact k ds (by rw [I.tupD_eq h1]) h
noncomputable def frS : Slot → Option D
  | .fr d => some d
  | _ => none
noncomputable def liS : Slot → Option (List D)
  | .li ds => some ds
  | _ => none
noncomputable def llS : Slot → Option (List (List D))
  | .ll ds => some ds
  | _ => none
theorem frS_eq {x : Slot} {y : D} (h : frS x = some y) : x = .fr y := by cases x <;> first | exact someE h rfl | exact optE h
theorem liS_eq {x : Slot} {y : List D} (h : liS x = some y) : x = .li y := by cases x <;> first | exact someE h rfl | exact optE h
theorem llS_eq {x : Slot} {y : List (List D)} (h : llS x = some y) : x = .ll y := by cases x <;> first | exact someE h rfl | exact optE h
theorem sFr {f : D → D → Option δ} (h : (match L, A with | some (.fr a), some (b, _) => f a b | _, _ => none) = some d) (k : ∀ a b t, L = some (.fr a) → A = some (b, t) → f a b = some d → G) : G := by
  rcases L with _ | x
  · exact optE h
  have e : (match (generalizing := false) some x, A with | some (.fr a), some (b, _) => f a b | _, _ => none) = (frS x).bind fun a => A.bind fun y => f a y.1 := by
    clear h k; cases x <;> first | rfl | (rcases A with _ | ⟨_, _⟩ <;> rfl)
  exact bindE (e.symm.trans h) fun a h1 h => bindE h fun y h2 h => k a y.1 y.2 (by rw [frS_eq h1]) h2 h
theorem sLi {f : List D → D → Option δ} (h : (match L, A with | some (.li a), some (b, _) => f a b | _, _ => none) = some d) (k : ∀ a b t, L = some (.li a) → A = some (b, t) → f a b = some d → G) : G := by
  rcases L with _ | x
  · exact optE h
  have e : (match (generalizing := false) some x, A with | some (.li a), some (b, _) => f a b | _, _ => none) = (liS x).bind fun a => A.bind fun y => f a y.1 := by
    clear h k; cases x <;> first | rfl | (rcases A with _ | ⟨_, _⟩ <;> rfl)
  exact bindE (e.symm.trans h) fun a h1 h => bindE h fun y h2 h => k a y.1 y.2 (by rw [liS_eq h1]) h2 h
theorem s1 {f : Slot → D → Option δ} (h : (match L, A with | some a, some (b, _) => f a b | _, _ => none) = some d) (k : ∀ a b t, L = some a → A = some (b, t) → f a b = some d → G) : G := by
  rcases L with _ | x
  · exact optE h
  rcases A with _ | ⟨y, t⟩
  · exact optE h
  exact k x y t rfl rfl h
theorem dA {M : Option D} {f : D → D → Option δ} (h : (match M, A with | some a, some (b, _) => f a b | _, _ => none) = some d) (k : ∀ a b t, M = some a → A = some (b, t) → f a b = some d → G) : G := by
  rcases M with _ | x
  · exact optE h
  rcases A with _ | ⟨y, t⟩
  · exact optE h
  exact k x y t rfl rfl h
theorem d1 {M : Option D} {f : D → Option δ} (h : (match M with | some a => f a | none => none) = some d) (k : ∀ a, M = some a → f a = some d → G) : G := by
  cases M with
  | none => exact optE h
  | some x => exact k x rfl h
theorem s2 {f : Slot → D → D → Option δ} (h : (match L, A, B with | some a, some (b, _), some (c, _) => f a b c | _, _, _ => none) = some d) (k : ∀ a b t c t', L = some a → A = some (b, t) → B = some (c, t') → f a b c = some d → G) : G := by
  rcases L with _ | x
  · exact optE h
  rcases A with _ | ⟨y, t⟩
  · exact optE h
  rcases B with _ | ⟨z, t'⟩
  · exact optE h
  exact k x y t z t' rfl rfl rfl h
theorem sLI {f : List (List D) → Int → D → Option δ} (h : (match L, A, B with | some (.ll a), some (.int b, _), some (c, _) => f a b c | _, _, _ => none) = some d) (k : ∀ a b t c t', L = some (.ll a) → A = some (.int b, t) → B = some (c, t') → f a b c = some d → G) : G := by
  rcases L with _ | x
  · exact optE h
  rcases A with _ | ⟨y, t⟩
  · exact optE (show none = some d by rw [← h]; cases x <;> rfl)
  have e : (match (generalizing := false) some x, some (y, t), B with | some (.ll a), some (.int b, _), some (c, _) => f a b c | _, _, _ => none) = (llS x).bind fun a => (I.intD y).bind fun b => B.bind fun z => f a b z.1 := by
    clear h k; cases x <;> first | rfl | (cases y <;> first | rfl | (rcases B with _ | ⟨_, _⟩ <;> rfl))
  exact bindE (e.symm.trans h) fun a h1 h => bindE h fun b h2 h => bindE h fun z h3 h => k a b t z.1 z.2 (by rw [llS_eq h1]) (by rw [I.intD_eq h2]) h3 h
theorem lD {M : Option (List D)} {f : List D → Option δ} (h : (match M with | some a => f a | none => none) = some d) (k : ∀ a, M = some a → f a = some d → G) : G := by
  cases M with
  | none => exact optE h
  | some x => exact k x rfl h
theorem sS {f : Slot → Option δ} (h : (match L with | some a => f a | none => none) = some d) (k : ∀ a, L = some a → f a = some d → G) : G := by
  cases L with
  | none => exact optE h
  | some x => exact k x rfl h
theorem sSt {f : Str → Option δ} (h : (match L with | some (.fr (.str x)) => f x | _ => none) = some d) (k : ∀ x, L = some (.fr (.str x)) → f x = some d → G) : G := by
  rcases L with _ | x
  · exact optE h
  have e : (match some x with | some (.fr (.str x)) => f x | _ => none) = (frS x).bind fun y => (I.strD y).bind f := by
    clear h k; cases x <;> first | rfl | (rename_i y; cases y <;> rfl)
  exact bindE (e.symm.trans h) fun y h1 h => bindE h fun z h2 h => k z (by rw [frS_eq h1, I.strD_eq h2]) h
theorem srcF {M : Option (List D × Bool × Bool)} {f : List D → Bool → Option δ} (h : (match M with | some (ds, false, en) => f ds en | _ => none) = some d) (k : ∀ ds en, M = some (ds, false, en) → f ds en = some d → G) : G := by
  rcases M with _ | ⟨ds, _ | _, en⟩
  · exact optE h
  · exact k ds en rfl h
  · exact optE h
theorem andB {a b : Bool} (h : (a && b) = true) (k : a = true → b = true → G) : G := k ((Bool.and_eq_true _ _).mp h).1 ((Bool.and_eq_true _ _).mp h).2
end
section
variable {nm fn : Nat → Str} {FT : List FE} {n : Nat} {sc : Scope} {tp : Bool} {S S' : Sta} {fl : Fl} {m : Fl → Sta → Prop}
@[elab_as_elim] theorem end' {a b : Fl} {s t : Sta} (h : some (a, s) = some (b, t)) (k : m a s) : m b t := by cases h; exact k
theorem mapS {G : Prop} {α : Type} {o : Option α} {g : α → Fl × Sta} {b : Fl × Sta} (h : o.map g = some b) (k : ∀ a, o = some a → g a = b → G) : G := by
  cases o with
  | none => exact optE h
  | some a => exact k a rfl (Option.some.inj h)
@[elab_as_elim] theorem pairE {a b : Fl} {s t : Sta} (h : (a, s) = (b, t)) (k : m a s) : m b t := by cases h; exact k
@[elab_as_elim] theorem asg {i : Nat} {pi : Pos} {e : X} {p : Pos} (h : exS nm fn FT sc tp (n + 1) (.asg i pi e p) S = some (fl, S')) (k : ∀ d, ev nm fn FT n sc e tp (rhoOf S) = some (d, false) → putK nm sc i = true → m .next (S.put i (.fr d))) : m fl S' :=
  mF h fun d h1 h => ifE h fun c h => end' h (k d h1 ((Bool.and_eq_true _ _).mp c).1)
@[elab_as_elim] theorem own {i : Nat} {pi : Pos} {e : X} {p : Pos} (h : exS nm fn FT sc tp (n + 1) (.own i pi e p) S = some (fl, S')) (k : ∀ d sl, ev nm fn FT n sc e tp (rhoT S) = some (d, false) → putK nm sc i = true → slotOf d = some sl → m .next (S.put i sl)) : m fl S' :=
  mF h fun d h1 h => ifE h fun c h => mapS h fun sl h2 e => pairE e (k d sl h1 ((Bool.and_eq_true _ _).mp c).1 h2)
@[elab_as_elim] theorem unp {ts : List (Nat × Pos)} {i : Nat} {pt : Pos} {e : X} {p : Pos} (h : exS nm fn FT sc tp (n + 1) (.unp ts i pt e p) S = some (fl, S'))
    (k : ∀ ds S1, ev nm fn FT n sc e tp (rhoOf S) = some (.tup ds, false) → notTup e = true → (∀ t ∈ ts, putK nm sc t.1 = true) → putMany S ts ds = some S1 → m .next S1) : m fl S' :=
  mTF h fun ds h1 h => ifE h fun c h => mapS h fun S1 h2 e => pairE e (k ds S1 h1 (I.and3 c).1 (List.all_eq_true.mp (I.and3 c).2.1) h2)
@[elab_as_elim] theorem aug {i : Nat} {pi : Pos} {op : BOp} {e : X} {p : Pos} (h : exS nm fn FT sc tp (n + 1) (.aug i pi op e p) S = some (fl, S'))
    (k : ∀ a b t d, S i = some (.fr a) → ev nm fn FT n sc e tp (rhoOf S) = some (b, t) → putK nm sc i = true → mutOp op = true → a.atom = true → binD op a b = some d → m .next (S.put i (.fr d))) : m fl S' :=
  sFr h fun a b t h1 h2 h => ifE h fun c h => d1 h fun d h3 h => end' h (k a b t d h1 h2 (I.and3 c).1 (I.and3 c).2.1 (I.and3 c).2.2 h3)
@[elab_as_elim] theorem ownL {i : Nat} {pi pl : Pos} {ps : List Pos} {p : Pos} (h : exS nm fn FT sc tp (n + 1) (.ownL i pi pl ps p) S = some (fl, S')) (k : putK nm sc i = true → ps.length ≤ 100 → m .next (S.put i (.ll (ps.map fun _ => [])))) : m fl S' :=
  ifE h fun c h => end' h (k ((Bool.and_eq_true _ _).mp c).1 (of_decide_eq_true ((Bool.and_eq_true _ _).mp c).2))
@[elab_as_elim] theorem augI {i : Nat} {pi : Pos} {kx : X} {ps : Pos} {op : BOp} {e : X} {p : Pos} (h : exS nm fn FT sc tp (n + 1) (.augI i pi kx ps op e p) S = some (fl, S'))
    (k : ∀ sl kd t a b t' d sl', S i = some sl → ev nm fn FT n sc kx tp (rhoOf S) = some (kd, t) → itemD sl.d kd = some a → ev nm fn FT n sc e tp (rhoOf S) = some (b, t') → mutOp op = true → a.atom = true → kd.atom = true → binD op a b = some d → setSlot sl kd d = some sl' → m .next (S.put i sl')) : m fl S' :=
  s1 h fun sl kd t h1 h2 h => dA h fun a b t' h3 h4 h => ifE h fun c h => d1 h fun d h5 h => mapS h fun sl' h6 e => andB c fun c c4 => pairE e (k sl kd t a b t' d sl' h1 h2 h3 h4 (I.and3 c).2.1 (I.and3 c).2.2 c4 h5 h6)
@[elab_as_elim] theorem setI {i : Nat} {pi : Pos} {kx : X} {ps : Pos} {e : X} {p : Pos} (h : exS nm fn FT sc tp (n + 1) (.setI i pi kx ps e p) S = some (fl, S'))
    (k : ∀ sl d t kd t' sl', S i = some sl → ev nm fn FT n sc e tp (rhoOf S) = some (d, t) → ev nm fn FT n sc kx tp (rhoOf S) = some (kd, t') → d.atom = true → kd.atom = true → setSlot sl kd d = some sl' → m .next (S.put i sl')) : m fl S' :=
  s2 h fun sl d t kd t' h1 h2 h3 h => ifE h fun c h => mapS h fun sl' h4 e => pairE e (k sl d t kd t' sl' h1 h2 h3 (I.and3 c).2.1 (I.and3 c).2.2 h4)
@[elab_as_elim] theorem app {i : Nat} {pi pa : Pos} {e : X} {pc p : Pos} (h : exS nm fn FT sc tp (n + 1) (.app i pi pa e pc p) S = some (fl, S'))
    (k : ∀ ds d t, S i = some (.li ds) → ev nm fn FT n sc e tp (rhoOf S) = some (d, t) → d.atom = true → (pa.endLine == pc.line) = true → ds.length ≤ listLine → m .next (S.put i (.li (ds ++ [d])))) : m fl S' :=
  sLi h fun ds d t h1 h2 h => ifE h fun c h => end' h (k ds d t h1 h2 (I.and3 c).1 (I.and3 c).2.1 (of_decide_eq_true (I.and3 c).2.2))
@[elab_as_elim] theorem appI {i : Nat} {pi : Pos} {kx : X} {pk pa : Pos} {e : X} {pc p : Pos} (h : exS nm fn FT sc tp (n + 1) (.appI i pi kx pk pa e pc p) S = some (fl, S'))
    (k : ∀ dss j t d t' ds, S i = some (.ll dss) → ev nm fn FT n sc kx tp (rhoOf S) = some (.int j, t) → ev nm fn FT n sc e tp (rhoOf S) = some (d, t') → 0 ≤ j → dss[j.toNat]? = some ds → d.atom = true → (pa.endLine == pc.line) = true → ds.length ≤ listLine ∧ dss.length ≤ listLine → m .next (S.put i (.ll (dss.set j.toNat (ds ++ [d]))))) : m fl S' :=
  sLI h fun dss j t d t' h1 h2 h3 h => ifE h fun c0 h => lD h fun ds h4 h => ifE h fun c h => end' h (k dss j t d t' ds h1 h2 h3 c0 h4 (I.and3 c).1 (I.and3 c).2.1 (of_decide_eq_true (I.and3 c).2.2))
theorem ite {G : Prop} {t : X} {a b : Bl} {p : Pos} (h : exS nm fn FT sc tp (n + 1) (.ite t a b p) S = some (fl, S')) (k1 : evT nm fn FT n sc t tp (rhoOf S) = some true → exB nm fn FT sc tp n a S = some (fl, S') → G) (k2 : evT nm fn FT n sc t tp (rhoOf S) = some false → exB nm fn FT sc tp n b S = some (fl, S') → G) : G :=
  I.bT h k1 k2
theorem for' {G : Prop} {tg : Tg} {src : X} {body : Bl} {p : Pos} (h : exS nm fn FT sc tp (n + 1) (.for tg src body p) S = some (fl, S'))
    (k : ∀ ds en, evSrc nm fn FT n sc src tp (rhoOf S) = some (ds, false, en) → tg.two? = en → (∀ i ∈ tgVars tg, putK nm sc i = true) → loopF (exB nm fn FT sc tp n body) tg ds S = some (fl, S') → G) : G :=
  srcF h fun ds en h1 h => ifE h fun c h => andB c fun c1 c2 => k ds en h1 (eq_of_beq c1) (List.all_eq_true.mp c2) h
@[elab_as_elim] theorem ret {e : X} {p : Pos} (h : exS nm fn FT sc tp (n + 1) (.ret e p) S = some (fl, S')) (k : ∀ d, ev nm fn FT n sc e tp (rhoOf S) = some (d, false) → m (.ret d) S) : m fl S' :=
  mF h fun d h1 h => end' h (k d h1)
@[elab_as_elim] theorem frz {i : Nat} (h : exS nm fn FT sc tp (n + 1) (.frz i) S = some (fl, S')) (k : ∀ sl, S i = some sl → m .next (S.put i (.fr sl.d))) : m fl S' :=
  sS h fun sl h1 h => end' h (k sl h1)
@[elab_as_elim] theorem repIf {i : Nat} {y : Str} {k0 : Nat} {q1 q2 q3 q4 q5 q6 : Pos} {k1 : Nat} {q7 : Pos} {z : Str} {k2 : Nat} {q8 q9 q10 q11 : Pos} (h : exS nm fn FT sc tp (n + 1) (.repIf i y k0 q1 q2 q3 q4 q5 q6 k1 q7 z k2 q8 q9 q10 q11) S = some (fl, S'))
    (k : ∀ x, S i = some (.fr (.str x)) → putK nm sc i = true → (q6.endLine == q9.line) = true → x.length ≤ strLine → z.length ≤ 14 → (y == z) = false → m .next (S.put i (.fr (.str (if Txt.contains x y then Txt.replace x y z else x))))) : m fl S' :=
  sSt h fun x h1 h => ifE h fun c h => end' h (k x h1 (I.and3 c).1 (I.and3 c).2.1 (of_decide_eq_true (I.and3 c).2.2).1 (of_decide_eq_true (I.and3 c).2.2).2.1 (of_decide_eq_true (I.and3 c).2.2).2.2)
end
end J
end Mine
end
section
set_option maxRecDepth 100000
open PySem PySem.W PyProof.Rows PySem.Calls
set_option autoImplicit false
namespace Mine
section
variable (prog : Program) (w : World)
inductive FlOk (h : Heap) (Wf : Addr → Prop) : Fl → Flow → Prop
  | next : FlOk h Wf .next .next
  | brk : FlOk h Wf .brk .brk
  | ret {d : D} {u : Value} : R prog w h Wf u d → FlOk h Wf (.ret d) (.ret u)
inductive ExP (nm : Nat → Str) (tp : Bool) (fr : List Env) (env : Env) (sc : Scope) (B : Addr → Prop) (h : Heap) (ad : Nat → List Addr) (fl : Fl) (S' : Sta) (f : Flow) (h' : Heap) : Prop
  | mk (σ' : Str → Option Value) (ad' : Nat → List Addr) (x : SI prog w nm env sc B h' S' σ' ad') (m : Mv tp fr env h ad h' ad') (fo : FlOk prog w h' (Wf B ad') fl f) : ExP nm tp fr env sc B h ad fl S' f h'
end
section
variable {prog : Program} {w : World} {nm fn : Nat → Str} {FT : List FE} {base : Heap} {N : Nat} {A : Around} {fr : List Env} {env : Env} {sc : Scope} {B : Addr → Prop} {h₀ : Heap} {S : Sta} {σ : Str → Option Value} {ad : Nat → List Addr} {s : Shared} {tp : Bool}
theorem Mv.off {M : Addr → Prop} {hs h h' : Heap} {ad' : Nat → List Addr} (x : Mv tp fr env hs ad h ad') (hM : ∀ a, M a → hs.get? a = none) (k : ∀ b o, ¬ M b → h.get? b = some o → h'.get? b = some o) : Mv tp fr env hs ad h' ad' := by
  have nm : ∀ b o, hs.get? b = some o → ¬ M b := fun b o e q => by rw [hM b q] at e; cases e
  exact ⟨fun b o h1 h2 h3 e => k b o (nm b o e) (x.kept b o h1 h2 h3 e), fun b o h1 h3 e => let ⟨sl, e'⟩ := x.slot b o h1 h3 e; ⟨sl, k b _ (nm b o e) e'⟩, fun b o h3 e => let ⟨o', e'⟩ := x.live b o h3 e; ⟨o', k b _ (nm b o e) e'⟩, x.new⟩
theorem load_slot {i : Nat} {sl : Slot} {u : Value} {P : Value → Heap → Prop} (gn : EnvG env) (x : SI prog w nm env sc B s.heap S σ ad) (nmd : (nm i == "__debug__") = false ∧ (nm i == "__classdict__") = false) (hi : S i = some sl) (hu : σ (nm i) = some u) (h : P u s.heap) {A : Around} :
    Ok (model prog w) A (loadName env (nm i)) s P := by
  rcases x.fm.holds (x.sl i sl hi).1 hu with ⟨hk, m, hn, hv⟩ | ⟨hk, c, hc', hv⟩
  · exact wpAny_loadName_local gn.kind hk hn hv ⟨_, _, rfl, h⟩
  · rcases hk with hk | hk
    · exact wpAny_loadName_cell gn.kind hk hc' hv ⟨_, _, rfl, h⟩
    · exact wpAny_loadName_free gn.kind hk hc' hv ⟨_, _, rfl, h⟩ nmd.2
theorem inplace_ok {op : BOp} {a b d : D} {u v : Value} {Wa Wb W : Addr → Prop} {A : Around} (hm : mutOp op = true) (ha : a.atom = true) (e : binD op a b = some d) (ru : R prog w s.heap Wa u a) (rv : R prog w s.heap Wb v b) :
    Ok (model prog w) A (inplaceOp op.py u v) s (BP prog w W s.heap d) ∧ d.atom = true := by
  revert hm ha ru rv
  refine binE e (fun a b _ _ ru rv => ⟨?_, rfl⟩) (fun a b c _ _ ru rv => ⟨?_, rfl⟩) (fun a b c _ ha => nomatch ha) (fun a b _ _ ru rv => ⟨?_, rfl⟩) (fun a b c hm => nomatch hm) (fun a b c hm => nomatch hm) (fun a b c hm => nomatch hm) (fun a b c hm => nomatch hm)
  · exact R.intE ru fun t => R.intE rv fun t' => ok_int fun Q E h => P.iadd_int h
  · exact R.strE ru fun t => R.strE rv fun t' => ok_str fun Q E h => SB.iadd h (le_line c)
  · exact R.intE ru fun t => R.intE rv fun t' => ok_int fun Q E h => P.isub_int h
variable (am : Am prog w nm fn FT base N)
include am
theorem SI.name {A' : Around} (gn : EnvG env) (x : SI prog w nm env sc B s.heap S σ ad) {i : Nat} {sl : Slot} {u : Value} (hi : S i = some sl) (hu : σ (nm i) = some u) {Q E : Value → Shared → Prop} (c : ∀ tk, s.toks ≤ tk → Q u (up s s.heap tk)) : wpAny (model prog w) A' (loadName env (nm i)) Q E s :=
  (load_slot (P := fun v h' => v = u ∧ h' = s.heap) gn x (am.nmd i) hi hu ⟨rfl, rfl⟩).wpE c
theorem SI.nameE {A' : Around} (gn : EnvG env) (x : SI prog w nm env sc B s.heap S σ ad) {i : Nat} {sl : Slot} {u : Value} (hi : S i = some sl) (hu : σ (nm i) = some u) {p : Pos} {Q E : Value → Shared → Prop} (c : ∀ tk, s.toks ≤ tk → Q u (up s s.heap tk)) : wpAny (model prog w) A' (eval (.Name (nm i) p) env) Q E s :=
  wpAny_Name (SI.name am gn x hi hu c) (am.nmd i).1
theorem Go.k {n : Nat} {e : X} {v : V} (go : Go A fr base h₀ N env B tp s.heap ad) (x : SI prog w nm env sc B s.heap S σ ad) (hev : ev nm fn FT n sc e tp (rhoOf S) = some v) {Q E : Value → Shared → Prop}
    (c : ∀ u h' tk, s.toks ≤ tk → Kp (SS (env :: fr) tp) s.heap h' → R prog w h' (Wb B ad v.2) u v.1 → SI prog w nm env sc B h' S σ ad → Go A fr base h₀ N env B tp h' ad → Q u (up s h' tk)) : wpAny (model prog w) (A.deeper env) (eval (e.py nm fn) env) Q E s :=
  ((sound am n n (Nat.le_refl _)).ev _ _ _ _ _ hev _ _ _ _ _ (x.st go.gn go.keep (Nat.zero_le _))).wp2 fun u h' tk hn k r => c u h' tk hn k r (x.step go.gn k) (go.move (Mv.eval go.gn k))
theorem Go.kT {n : Nat} {e : X} {b : Bool} (go : Go A fr base h₀ N env B tp s.heap ad) (x : SI prog w nm env sc B s.heap S σ ad) (hev : evT nm fn FT n sc e tp (rhoOf S) = some b) {Q : Bool → Shared → Prop} {E : Value → Shared → Prop}
    (c : ∀ h' tk, s.toks ≤ tk → SI prog w nm env sc B h' S σ ad → Go A fr base h₀ N env B tp h' ad → Mv tp fr env s.heap ad h' ad → Q b (up s h' tk)) : wpAny (model prog w) (A.deeper env) (isTrue (e.py nm fn) env (eval (e.py nm fn) env)) Q E s :=
  (sound am n n (Nat.le_refl _)).kT hev (x.st go.gn go.keep (Nat.zero_le _)) fun h' tk hn k _ => c h' tk hn (x.step go.gn k) (go.move (Mv.eval go.gn k)) (Mv.eval go.gn k)
omit am in
theorem new_off {M : Addr → Prop} {h' : Heap} (x : SI prog w nm env sc B s.heap S σ ad) (hM : ∀ a, M a → s.heap.get? a = none ∧ ∃ o, h'.get? a = some o) : ∀ a, M a → ¬ B a := fun a q z => by obtain ⟨o, e⟩ := x.al a z; rw [(hM a q).1] at e; cases e
theorem ex_asg {n : Nat} {i : Nat} {pi : Pos} {e : X} {p : Pos} {fl : Fl} {S' : Sta} (he : exS nm fn FT sc tp (n + 1) (.asg i pi e p) S = some (fl, S')) (go : Go A fr base h₀ N env B tp s.heap ad)
    (x : SI prog w nm env sc B s.heap S σ ad) (tk : 0 ≤ s.toks) : Ok (model prog w) (A.deeper env) (exec (.Assign [.Name (nm i) pi] (e.py nm fn) p) env) s (ExP prog w nm tp fr env sc B s.heap ad fl S') := by
  refine J.asg he fun d hev hp => ?_
  refine assign_any am (PP := fun M h'' => (∀ a, M a → ¬ B a) ∧ ∃ σ', SI prog w nm env sc (fun a => B a ∨ M a) h'' (S.put i (.fr d)) σ' (adPut ad i []) ∧ Mv tp fr env s.heap ad h'' (adPut ad i [])) (x.st go.gn go.keep tk) hev ⟨σ, x.fm⟩ (fun M u h' tk' hn hM k r => ?_) fun M h'' h''' hM q k => ?_
  · refine store_fr (tp := tp) (s := up s h' tk') go.gn.more (x.lift go.gn k hM) am.inj hp (r.mono (fun _ _ _ e => e) fun a q => .inl ?_) fun σ' h'' tk'' _ y m kk => fin ⟨kk, new_off x hM, σ', y, (Mv.eval go.gn k).trans m⟩
    exact q.elim (fun q => q.elim (fun q => .inl (.inl q)) .inr) fun q => .inl (.inr q)
  · obtain ⟨hMB, σ', y, m⟩ := q
    exact ⟨σ', _, y.weak go.gn k hMB, m.off hM k, .next⟩
theorem SI.stT (gn : Gn A fr base h₀ N env B) (x : SI prog w nm env sc B s.heap S σ ad) (keep : Kp (SS fr tp) h₀ s.heap) (tk : 0 ≤ s.toks) :
    St (prog := prog) (w := w) (nm := nm) (A.deeper env) (env :: fr) base N env sc (fun t a => if t = true then B a else ∃ o, s.heap.get? a = some o) (rhoT S) s := by
  have st := x.st gn keep tk
  refine ⟨st.cx, ⟨gn.g, x.sc, σ, x.fm, fun i d t hi => ?_⟩, ⟨fun a q => ?_, fun a q => ?_, fun a q => ?_⟩, tk⟩
  · unfold rhoT at hi
    split at hi
    rotate_left
    · cases hi
    rename_i sl hs
    obtain ⟨a, u, b, c⟩ := x.sl i sl hs
    refine ⟨a, u, b, ?_⟩
    have r : R prog w s.heap B u sl.d := c.value (fun _ a q => .inl q) fun a ha => x.nb i a ha
    have r' := R.itV (W := fun t a => if t = true then B a else ∃ o, s.heap.get? a = some o) (t := true) (d := sl.d) (v := u) (h := s.heap) (prog := prog) (w := w) (by simpa using r)
    injection hi with hi
    rw [hi] at r'
    exact r'
  · simp only [if_true]; exact st.wo.fr a q
  · simp only [if_true] at q; simp only [Bool.false_eq_true, if_false]; exact x.al a q
  · simpa using q
omit am in
theorem own_new {d : D} {sl : Slot} {u : Value} {h h' : Heap} {M : Addr → Prop} (hs : slotOf d = some sl) (r : R prog w h' (fun a => (if false = true then B a else ∃ o, h.get? a = some o) ∨ M a) u d) :
    ∃ a, u = .ref a ∧ h.get? a = none ∧ ¬ M a ∧ (∃ o, h'.get? a = some o) ∧ ∀ W, SlotOk prog w h' W sl u [a] := by
  have no : ∀ a, ¬ ((if false = true then B a else ∃ o, h.get? a = some o) ∨ M a) → h.get? a = none ∧ ¬ M a := fun a hw => ⟨by
    cases q : h.get? a with
    | none => rfl
    | some o => exact absurd (.inl (by rw [if_neg Bool.false_ne_true]; exact ⟨o, q⟩)) hw, fun q => hw (.inr q)⟩
  cases d with
  | lst ds => exact ifE hs fun hat e => someE e (R.lstE r fun a us m hw hl rb => ⟨a, rfl, (no a hw).1, (no a hw).2, ⟨_, hl⟩, fun W => .li hl (rb.atoms hat) hat⟩)
  | dct ks ds => exact ifE hs fun hat e => someE e (R.dctE r fun a kvs hw lo hd he rb => ⟨a, rfl, (no a hw).1, (no a hw).2, (by obtain ⟨o, _, _, ho, _⟩ := hd; exact ⟨o, ho⟩), fun W => .di lo hd he (rb.atoms hat) hat⟩)
  | _ => exact optE hs
theorem ex_own {n : Nat} {i : Nat} {pi : Pos} {e : X} {p : Pos} {fl : Fl} {S' : Sta} (he : exS nm fn FT sc tp (n + 1) (.own i pi e p) S = some (fl, S')) (go : Go A fr base h₀ N env B tp s.heap ad)
    (x : SI prog w nm env sc B s.heap S σ ad) (tk : 0 ≤ s.toks) : Ok (model prog w) (A.deeper env) (exec (.Assign [.Name (nm i) pi] (e.py nm fn) p) env) s (ExP prog w nm tp fr env sc B s.heap ad fl S') := by
  refine J.own he fun d sl hev hp hsl => ?_
  refine assign_any am (PP := fun M h'' => (∀ a, M a → ¬ B a) ∧ ∃ σ' ad', SI prog w nm env sc (fun a => B a ∨ M a) h'' (S.put i sl) σ' ad' ∧ Mv tp fr env s.heap ad h'' ad') (x.stT am go.gn go.keep tk) hev ⟨σ, x.fm⟩ (fun M u h' tk' hn hM k r => ?_) fun M h'' h''' hM q k => ?_
  · have hMB := new_off x hM
    obtain ⟨a, rfl, ha, haM, haA, hslot⟩ := own_new hsl r
    have haB : ¬ B a := fun z => by obtain ⟨o, e⟩ := x.al a z; rw [ha] at e; cases e
    have haAd : ∀ k, a ∉ ad k := fun k q => by
      cases hs : S k with
      | none => rw [x.no k hs] at q; cases q
      | some y => obtain ⟨_, _, _, c⟩ := x.sl k y hs; obtain ⟨o, e⟩ := c.alive a q; rw [ha] at e; cases e
    have x' := x.lift go.gn k hM
    have x'' := x.lift (M := fun b => M b ∨ b = a) go.gn k fun b q => q.elim (hM b) fun q => q ▸ ⟨ha, haA⟩
    refine (store_slot (s := (up s h' tk')) go.gn.more x' am.inj hp (sl := sl) (as := [a]) (hslot _) (fun b hb => ?_) (fun l _ b hb => ?_) (by simp) fun l y v hl hS hv _ => ?_).mono fun _ h'' q => ⟨q.2.1, hMB, _, _, q.1, (Mv.eval go.gn k).store q.2.1 q.2.2 fun b hb => ?_⟩
    · rw [List.mem_singleton] at hb; subst hb; exact fun q => q.elim haB haM
    · rw [List.mem_singleton] at hb; subst hb; exact haAd l
    · have c := x''.at hS hv
      refine c.keep (fun _ _ _ e => e) (fun _ _ _ e => e) fun b q => .inl ?_
      rcases q with (q | q) | ⟨j, q⟩
      · exact .inl (.inl q)
      · exact .inl (.inr (.inl q))
      · unfold adPut at q
        split at q
        · rw [List.mem_singleton] at q; exact .inl (.inr (.inr q))
        · exact .inr ⟨j, q⟩
    · rw [List.mem_singleton] at hb; subst hb; exact .inr ha
  · obtain ⟨hMB, σ', ad', y, m⟩ := q
    exact ⟨σ', _, y.weak go.gn k hMB, m.off hM k, .next⟩
theorem ex_aug {n : Nat} {i : Nat} {pi : Pos} {op : BOp} {e : X} {p : Pos} {fl : Fl} {S' : Sta} (he : exS nm fn FT sc tp (n + 1) (.aug i pi op e p) S = some (fl, S')) (go : Go A fr base h₀ N env B tp s.heap ad)
    (x : SI prog w nm env sc B s.heap S σ ad) (tk : 0 ≤ s.toks) : Ok (model prog w) (A.deeper env) (exec (.AugAssign (.Name (nm i) pi) op.py (e.py nm fn) p) env) s (ExP prog w nm tp fr env sc B s.heap ad fl S') := by
  refine J.aug he fun a b tb d hi hev hp hm ha hd => x.frE hi fun u hu _ => wpAny_AugAssign_Name (SI.name am go.gn.g x hi hu fun tk1 hn1 => Go.k (s := up s s.heap tk1) am go x hev fun v2 h2 tk2 hn2 k2 r2 x2 go2 => ?_)
  have ru : R prog w h2 (fun _ => False) u a := x2.frE hi fun u' hu' r => Option.some.inj (hu'.symm.trans hu) ▸ r.of_atom ha
  obtain ⟨ok, hat⟩ := inplace_ok (s := up s h2 tk2) (W := fun _ => False) (A := A.deeper env) hm ha hd ru r2
  refine ok.wp2 fun v3 h3 tk3 hn3 k3 r3 => ?_
  have k3' : Kp (SS (env :: fr) tp) s.heap h3 := k2.trans (Kp.of k3)
  exact store_fr (tp := tp) (s := up s h3 tk3) go.gn (x.step go.gn k3') am.inj hp (r3.of_atom hat) fun σ' h4 tk4 hn4 y m _ => fin ⟨_, _, y, (Mv.eval go.gn k3').trans m, .next⟩
end
end Mine
end
section
set_option maxRecDepth 100000
open PySem PySem.W PyProof.Rows PySem.Calls
set_option autoImplicit false
namespace Mine
section
variable {prog : Program} {w : World} {nm fn : Nat → Str} {FT : List FE} {base : Heap} {N : Nat} {A : Around} {fr : List Env} {env : Env} {sc : Scope} {B : Addr → Prop} {h₀ : Heap} {S : Sta} {σ : Str → Option Value} {ad : Nat → List Addr} {s : Shared} {tp : Bool}
theorem setItem_plain {E : Value → Shared → Prop} {l : Addr} {us : List Value} {m : Nat} {k : Int} {t : Tok} {v : Value} {Q : Unit → Shared → Prop} (ho : s.heap.get? l = some (sq "list" us m)) (h0 : 0 ≤ k) (hfit : k < 2 ^ 63) (hn : k < us.length)
    (hQ : ∀ h' m', h'.get? l = some (sq "list" (us.set k.toNat v) m') → Heap.SameBut l s.heap h' → Q () { s with heap := h' }) :
    wpAny (model prog w) A (setItem (.ref l) (.int k t) v) Q E s := by
  have hl := isList_of_sq ho
  unfold setItem
  try with_reducible refine wpAny_holding ?_
  first | refine wpAny_bind (wpAny_pure ?_) | skip
  refine wpAny_bind (wpAny_sequenceKey hl.typeIs (by decide) ?_)
  refine wpAny_bind (wpAny_callSpecial?_slot (name := Str.ofString "__setitem__") hl.typeIs slot_list_setitem
    (wpAny_call_entry slot_list_setitem hl.typeIs entry_list_setitem ?_ (args_list_setitem _ _ _)))
  show wpAny _ _ (Builtin.List.listSubscript? (.int k t) >>= _) _ _ s
  refine wpAny_bind (wpAny_listSubscript_int (fitsIndex_of h0 hfit) ?_)
  clear hfit
  obtain ⟨j, rfl⟩ := Int.eq_ofNat_of_zero_le h0
  have hj : j < us.toArray.size := by rw [List.size_toArray]; omega
  have hx' : us.toArray[j]? = some us.toArray[j] := Array.getElem?_eq_getElem hj
  show wpAny _ _ ((seqItemAt l j >>= fun r => pure (r.map (j, ·))) >>= _) _ _ s
  refine wpAny_bind (wpAny_bind (wpAny_seqItemAt ho rfl (wpAny_pure ?_)))
  rw [hx']
  show wpAny _ _ (setSeqItemAt l j v >>= _) _ _ s
  have e1 : ∃ m', Obj.mapSeq (·.setIfInBounds j v) (sq "list" us m) = sq "list" (us.set j v) m' := by
    obtain ⟨m', hm⟩ := Obj.data_mapSeq (o := sq "list" us m) rfl (·.setIfInBounds j v)
    refine ⟨m', ?_⟩
    have e2 : us.toArray.setIfInBounds j v = (us.set j v).toArray := by simp
    rw [e2] at hm
    have e3 : Obj.mapSeq (·.setIfInBounds j v) (sq "list" us m) = { sq "list" us m with data := (Obj.mapSeq (·.setIfInBounds j v) (sq "list" us m)).data } := by
      unfold Obj.mapSeq; rfl
    rw [e3, hm]
  obtain ⟨m', e1⟩ := e1
  refine wpAny_bind (wpAny_setSeqItemAt ho rfl ?_)
  have hfin : (s.heap.update l (Obj.mapSeq (·.setIfInBounds j v))).get? l = some (sq "list" (us.set j v) m') := by
    rw [Heap.get?_update_self _ ho (by rw [e1]; rfl), e1]
  first
    | exact wpAny_bind (wpAny_pure (wpAny_pure ⟨.none, rfl, wpAny_pure (hQ _ _ hfin (Heap.SameBut.update ..))⟩))
    | exact wpAny_pure ⟨.none, rfl, wpAny_pure (hQ _ _ hfin (Heap.SameBut.update ..))⟩
theorem all_set {ds : List D} {d : D} (k : Nat) (h : ds.all D.atom = true) (hd : d.atom = true) : (ds.set k d).all D.atom = true := by
  rw [List.all_eq_true] at h ⊢
  intro x hx
  rcases List.mem_or_eq_of_mem_set hx with hx | rfl
  · exact h x hx
  · exact hd
theorem all_storeD {d : D} (hd : d.atom = true) : ∀ (ks : List Str) (ds : List D) (x : Str), ds.all D.atom = true → (storeD ks ds x d).2.all D.atom = true
  | [], [], x, h => (Bool.and_eq_true _ _).mpr ⟨hd, rfl⟩
  | [], _ :: _, x, h => (Bool.and_eq_true _ _).mpr ⟨hd, rfl⟩
  | _ :: _, [], x, h => (Bool.and_eq_true _ _).mpr ⟨hd, rfl⟩
  | k :: ks, e :: ds, x, h => by
    rw [List.all_cons, Bool.and_eq_true] at h
    have eq : storeD (k :: ks) (e :: ds) x d = if k = x then (k :: ks, d :: ds) else (k :: (storeD ks ds x d).1, e :: (storeD ks ds x d).2) := rfl
    rw [eq]
    by_cases c : k = x
    · rw [if_pos c]; exact (Bool.and_eq_true _ _).mpr ⟨hd, h.2⟩
    · rw [if_neg c]; exact (Bool.and_eq_true _ _).mpr ⟨h.1, all_storeD hd ks ds x h.2⟩
theorem setItem_ok {sl sl' : Slot} {u v kv : Value} {as : List Addr} {W W1 W2 : Addr → Prop} {kd d : D} (hs : setSlot sl kd d = some sl') (hsl : SlotOk prog w s.heap W sl u as) (rk : R prog w s.heap W1 kv kd) (rv : R prog w s.heap W2 v d) {W' : Addr → Prop} :
    Ok (model prog w) A (setItem u kv v) s (fun _ h' => (∀ b o, b ∉ as → s.heap.get? b = some o → h'.get? b = some o) ∧ SlotOk prog w h' W' sl' u as) := by
  cases sl with
  | li ds =>
    cases kd with
    | int j =>
      refine ifE hs fun hg e => someE e (R.intE rk fun t => ?_)
      cases hsl with | @li a us m _ hl rl hat =>
      have hlen := rl.length
      have hz : ds.length ≤ 100000 := hg.2.2.1
      refine setItem_plain hl hg.1 (by have := hg.2.1; omega) (by rw [hlen]; exact hg.2.1) fun h' m' hl' hsb => ⟨_, _, rfl, fun b o hb e => (hsb.2 b fun q => hb (q ▸ List.mem_singleton.mpr rfl)).trans e, ?_⟩
      exact .li hl' ((rl.set (rv.of_atom hg.2.2.2) j.toNat).atoms (all_set _ hat hg.2.2.2)) (all_set _ hat hg.2.2.2)
    | _ => exact optE hs
  | di ks ds =>
    cases kd with
    | str x =>
      refine ifE hs fun hg e => someE e (R.strE rk fun t => ?_)
      cases hsl with | @di a kvs _ _ lo hd he rl hat =>
      rw [he] at hg ⊢
      have hnd : (kvs.map (·.1)).Nodup := by obtain ⟨_, _, _, _, _, _, _, _, q⟩ := hd; exact q
      have hst := storeD_ok (W := fun _ => False) (rv.of_atom hg.2 (h' := s.heap)) (x := x) rl hnd
      have hz := hg.1
      rw [List.length_map] at hz
      exact wpAny_setItem_pairs (strKind_is prog w _ _) hd (fun h' hd' hsb => ⟨_, _, rfl, fun b o hb e => (hsb.2 b fun q => hb (q ▸ List.mem_singleton.mpr rfl)).trans e, .di lo hd' hst.1.symm (hst.2.atoms (all_storeD hg.2 _ _ _ hat)) (all_storeD hg.2 _ _ _ hat)⟩) (by rw [sizeLine_eq]; have : kvs.length ≤ 100000 := hz; omega)
    | _ => exact optE hs
  | _ => cases kd <;> exact optE hs
theorem swaps_sub (e kx : X) {x : Str} {p ps : Pos} {l : Nat} : swapsWith (e.py nm fn) (some (.Subscript (.Name x p) (kx.py nm fn) ps)) l env = pure false := by cases e <;> rfl
theorem aug_py (kx : X) (ov iv new : Value) : augStore (kx.py nm fn) ov iv new = (do holding [new, ov, iv] (setItem ov iv new); release [new, ov, iv] []; pure Flow.next) := by cases kx <;> rfl
variable (am : Am prog w nm fn FT base N)
include am
theorem ex_setI {n : Nat} {i : Nat} {pi : Pos} {kx : X} {ps : Pos} {e : X} {p : Pos} {fl : Fl} {S' : Sta} (he : exS nm fn FT sc tp (n + 1) (.setI i pi kx ps e p) S = some (fl, S')) (go : Go A fr base h₀ N env B tp s.heap ad)
    (x : SI prog w nm env sc B s.heap S σ ad) (tk : 0 ≤ s.toks) : Ok (model prog w) (A.deeper env) (exec (.Assign [.Subscript (.Name (nm i) pi) (kx.py nm fn) ps] (e.py nm fn) p) env) s (ExP prog w nm tp fr env sc B s.heap ad fl S') := by
  refine J.setI he fun sl d td kd tk' sl' hi hev hkv hd hkd hset => ?_
  refine wpAny_Assign_Subscript (Go.k am go x hev fun v h1 tk1 hn1 k1 r1 x1 go1 => x1.slE hi fun u hu _ => SI.nameE (s := up s h1 tk1) am go.gn.g x1 hi hu fun tk2 hn2 => Go.k (s := up s h1 tk2) am go1 x1 hkv fun v3 h3 tk3 hn3 k3 r3 x3 _ => ?_) (swaps_sub e kx)
  refine (setItem_ok (s := up s h3 tk3) (W' := Wf B ad) hset (x3.at hi hu) r3 (r1.of_atom hd (h' := h3) (W' := fun _ => False))).wp2 fun _ h4 tk4 hn4 k4 c4 => ?_
  have ym := own_change (tp := tp) (s := up s h3 tk3) x3 hi hu go.gn k4 c4
  exact fin ⟨_, _, ym.1, ((Mv.eval go.gn k1).trans (Mv.eval go.gn k3)).trans ym.2, .next⟩
theorem ex_augI {n : Nat} {i : Nat} {pi : Pos} {kx : X} {ps : Pos} {op : BOp} {e : X} {p : Pos} {fl : Fl} {S' : Sta} (he : exS nm fn FT sc tp (n + 1) (.augI i pi kx ps op e p) S = some (fl, S')) (go : Go A fr base h₀ N env B tp s.heap ad)
    (x : SI prog w nm env sc B s.heap S σ ad) (tk : 0 ≤ s.toks) : Ok (model prog w) (A.deeper env) (exec (.AugAssign (.Subscript (.Name (nm i) pi) (kx.py nm fn) ps) op.py (e.py nm fn) p) env) s (ExP prog w nm tp fr env sc B s.heap ad fl S') := by
  refine J.augI he fun sl kd tk' a b tb d sl' hi hkv hitem hev hm ha hkd hd hset => x.slE hi fun u hu _ => ?_
  refine wpAny_AugAssign_SubscriptAny (SI.nameE am go.gn.g x hi hu fun tk1 hn1 => Go.k (s := up s s.heap tk1) am go x hkv fun v2 h2 tk2 hn2 k2 r2 x2 go2 => ?_) (aug_py kx)
  have rv : R prog w h2 (Wb B ad true) u sl.d := (x2.at hi hu).value (fun _ a q => .inl q) fun a ha => x2.nb i a ha
  obtain ⟨T, id, hT, hl, gok⟩ := getItem_ok (A := A.deeper env) (s := up s h2 tk2) hitem rv r2
  refine gok.wp2 fun v3 h3 tk3 hn3 k3 r3 => ?_
  have k3' : Kp (SS (env :: fr) tp) h2 h3 := Kp.of k3
  refine Go.k (s := up s h3 tk3) am (go2.move (Mv.eval go.gn k3')) (x2.step go.gn k3') hev fun v4 h4 tk4 hn4 k4 r4 x4 _ => ?_
  obtain ⟨ok, hat⟩ := inplace_ok (s := up s h4 tk4) (W := fun _ => False) (A := A.deeper env) hm ha hd (r3.of_atom ha (h' := h4) (W' := fun _ => False)) r4
  refine ok.wp2 fun v5 h5 tk5 hn5 k5 r5 => ?_
  have k5' : Kp (SS (env :: fr) tp) h4 h5 := Kp.of k5
  have x5 := x4.step go.gn k5'
  refine (setItem_ok (s := up s h5 tk5) (W' := Wf B ad) hset (x5.at hi hu) (r2.of_atom hkd (h' := h5) (W' := fun _ => False)) r5).wp2 fun _ h6 tk6 hn6 k6 c6 => ?_
  have ym := own_change (tp := tp) (s := up s h5 tk5) x5 hi hu go.gn k6 c6
  exact fin ⟨_, _, ym.1, ((Mv.eval go.gn k2).trans (Mv.eval go.gn ((k3'.trans k4).trans k5'))).trans ym.2, .next⟩
theorem kind_no_inter (g : EnvG env) : interactive env = false := by unfold interactive; rw [g.kind]; rfl
theorem ex_app {n : Nat} {i : Nat} {pi pa : Pos} {e : X} {pc p : Pos} {fl : Fl} {S' : Sta} (he : exS nm fn FT sc tp (n + 1) (.app i pi pa e pc p) S = some (fl, S')) (go : Go A fr base h₀ N env B tp s.heap ad)
    (x : SI prog w nm env sc B s.heap S σ ad) (tk : 0 ≤ s.toks) : Ok (model prog w) (A.deeper env) (exec (.Expr (.Call (.Attribute (.Name (nm i) pi) "append" pa) [e.py nm fn] [] pc) p) env) s (ExP prog w nm tp fr env sc B s.heap ad fl S') := by
  refine J.app he fun ds d td hi hev hat hpos hz => x.liE hi fun a us0 m0 hu hadi hl0 _ _ => ?_
  refine wpAny_Expr_any ?_ (kind_no_inter am go.gn.g) rfl
  refine wpAny_Call_method_lateS rfl (by rw [star_py]; rfl) hpos (SI.nameE am go.gn.g x hi hu fun tk1 hn1 => ⟨"list", "list.append", F.plainAttrs_list, F.slot_list_append, F.type_list_append, ⟨_, hl0, rfl⟩, (fun b q => by cases q; exact ⟨_, hl0, rfl⟩), ?_⟩)
  rw [star_py]
  refine callWith_builtin rfl (evalArgs_plain (spliced_cons (Go.k (s := up s s.heap tk1) am go x hev fun v2 h2 tk2 hn2 k2 r2 x2 _ => spliced_nil ?_)))
  refine x2.liE hi fun a' us m hu' _ hl rl hds => ?_
  cases (Option.some.inj (hu.symm.trans hu') : Value.ref a = .ref a')
  refine wpAny_list_append_plain (items := us.toArray) ⟨m, hl⟩ (fun h3 hl3 hsb => ?_) (by rw [List.size_toArray, rl.length, sizeLine_eq]; have : ds.length ≤ 100000 := hz; omega)
  obtain ⟨m', hl3⟩ := hl3
  rw [show ({ cls := .type "list", data := .seq (us.toArray.push v2) m' } : Obj) = sq "list" (us ++ [v2]) m' by simp [sq]] at hl3
  have hat' : (ds ++ [d]).all D.atom = true := by rw [List.all_append, hds]; exact (Bool.and_eq_true _ _).mpr ⟨rfl, (Bool.and_eq_true _ _).mpr ⟨hat, rfl⟩⟩
  have ym := own_change (tp := tp) (s := up s h2 tk2) (h' := h3) (sl' := .li (ds ++ [d])) x2 hi hu go.gn (fun b o hb e => (hsb.2 b fun q => hb (by rw [hadi]; exact List.mem_singleton.mpr q)).trans e)
    (by rw [hadi]; exact .li hl3 ((rl.append (.cons (r2.of_atom hat) .nil)).atoms hat') hat')
  exact fin ⟨_, _, ym.1, (Mv.eval go.gn k2).trans ym.2, .next⟩
end
end Mine
end
section
set_option maxRecDepth 100000
open PySem PySem.W PyProof.Rows PySem.Calls
set_option autoImplicit false
namespace Mine
section
variable {prog : Program} {w : World} {nm fn : Nat → Str} {FT : List FE} {base : Heap} {N : Nat} {A : Around} {fr : List Env} {env : Env} {sc : Scope} {B : Addr → Prop} {h₀ : Heap} {S : Sta} {σ : Str → Option Value} {ad : Nat → List Addr} {s : Shared} {tp : Bool}
theorem nextV_ok {I : Addr} {fp wr : List Addr} {ds : List D} {en : Bool} {h₁ : Heap} {Wt W : Addr → Prop} {At : Nat → Heap → Prop} {i : Nat} {d : D} {tg : Tg}
    (hw : Wk prog w A I fp wr ds en h₁ Wt At) (hat : At i s.heap) (hi : ds[i]? = some d) (two : tg.two? = en)
    (wrW : ∀ a ∈ wr, W a) (hWt : ∀ a, W a → Wt a ∨ a ∈ wr ∨ h₁.get? a = none) (kp : ∀ b o, ¬ Wt b → b ∉ wr → h₁.get? b = some o → s.heap.get? b = some o) {E : Value → Shared → Prop} {Q : Value → Shared → Prop} {QQ : Option Value → Shared → Prop}
    (hfin : ∀ v s₁, wpAny (model prog w) A (letOwnedTupleGo (tg.py nm) (.ref I) v) (fun _ s₂ => Q v s₂) E s₁ → QQ (some v) s₁)
    (hQ : ∀ v h' tk, s.toks ≤ tk → At (i + 1) h' → (∀ b o, b ∉ wr → s.heap.get? b = some o → h'.get? b = some o) → TgVal prog w h' W v d tg → Q v (up s h' tk)) :
    wpAny (model prog w) A (pyNext (.ref I)) QQ E s := by
  have hlt : i < ds.length := (List.getElem?_eq_some_iff.mp hi).1
  have lift : ∀ {h' : Heap} {v : Value} {d : D}, (∀ b o, b ∉ wr → s.heap.get? b = some o → h'.get? b = some o) → R prog w h₁ (fun a => Wt a ∨ a ∈ wr) v d → R prog w h' W v d := fun {h' v d} hk r =>
    r.mono (fun b o hb eb => hk b o (fun z => hb (.inr z)) (kp b o (fun z => hb (.inl z)) (fun z => hb (.inr z)) eb)) fun a z => (hWt a z).elim (fun q => .inl (.inl q)) fun q => q.elim (fun q => .inl (.inr q)) .inr
  refine tokK ?_
  revert two hQ hfin
  refine hw.elim (fun P W0 hP two => ?_) (fun P Mid W0 hP two => ?_)
  · exact Tg.oneE two fun k p hfin hQ => W0.item i s _ _ hlt hat fun v h₁ tk₁ hPv hat₁ hk₁ hn => hfin v _ (wpAny_of_eq (a := ()) rfl (hQ v _ _ hn hat₁ hk₁ (lift hk₁ (hP i v d hPv hi))))
  · refine Tg.twoE two fun k p j q kk r hfin hQ => W0.item i s _ _ hlt hat fun tup vals h₁ tk₁ hPv hTs hT hmid hk₁ hn => hfin (.ref tup) _ ?_
    obtain ⟨a, b, da, db, rfl, hd, ra, rb⟩ := hP i vals d hPv hi
    refine W0.go _ _ _ i tup _ _ _ hmid fun h₂ hat₂ hk₂ => ?_
    have hk12 : ∀ b o, b ∉ wr → s.heap.get? b = some o → h₂.get? b = some o := fun b o hb eb => hk₂ b o hb (hk₁ b o hb eb)
    have hT2 : h₂.IsTuple tup #[a, b] := by
      obtain ⟨o, ho, hc, n, hd⟩ := hT
      exact ⟨o, hk₂ tup o (W0.apart i tup _ hmid) ho, hc, n, hd⟩
    exact hQ _ h₂ tk₁ hn hat₂ hk12 ⟨tup, a, b, da, db, rfl, hd, hT2, lift hk12 ra, lift hk12 rb⟩
theorem SI.off {wr : List Addr} {h h' : Heap} (x : SI prog w nm env sc B h S σ ad) (k : ∀ b o, b ∉ wr → h.get? b = some o → h'.get? b = some o) (hB : ∀ b ∈ wr, B b) (hF : ∀ b ∈ wr, ¬ Fm.all env b) (hal : ∀ b ∈ wr, ∃ o, h'.get? b = some o) : SI prog w nm env sc B h' S σ ad := by
  refine ⟨x.sc, x.fm.keep fun a o q e => k a o (fun z => hF a z q) e, fun i z hi => ?_, x.no, x.nb, x.dj, x.nd, fun a q => ?_⟩
  · obtain ⟨a, u, b, c⟩ := x.sl i z hi
    exact ⟨a, u, b, c.keep (fun b hb o e => k b o (fun q => x.nb i b hb (hB b q)) e) (fun b o hb e => k b o (fun q => hb (.inl (hB b q))) e) fun a q => .inl q⟩
  · by_cases hw : a ∈ wr
    · exact hal a hw
    · obtain ⟨o, e⟩ := x.al a q; exact ⟨o, k a o hw e⟩
theorem putMany_ok {A' : Around} (gn : Gn A fr base h₀ N env B) (inj : ∀ i j, nm i = nm j → i = j) : ∀ (ts : List (Nat × Pos)) (ds : List D) (us : List Value) (S S' : Sta) (σ : Str → Option Value) (ad : Nat → List Addr) (s : Shared),
    putMany S ts ds = some S' → RL prog w s.heap (Wf B ad) us ds → (∀ t ∈ ts, putOk sc (nm t.1) = true) → SI prog w nm env sc B s.heap S σ ad →
    Ok (model prog w) A' (assignInOrder (ts.map fun t => assign (.Name (nm t.1) t.2) env) us) s (fun _ h' => ∃ σ' ad', SI prog w nm env sc B h' S' σ' ad' ∧ Mv tp fr env s.heap ad h' ad')
  | [], [], us, S, S', σ, ad, s, hp, r, _, x => RL.nilE (ms := fun us => Ok (model prog w) A' (assignInOrder [] us) s _) r (someE hp (assignInOrder_nil (fin ⟨σ, ad, x, Mv.refl⟩)))
  | [], _ :: _, _, _, _, _, _, _, hp, _, _, _ => optE hp
  | _ :: _, [], _, _, _, _, _, _, hp, _, _, _ => optE hp
  | t :: ts, d :: ds, us, S, S', σ, ad, s, hp, r, hk, x => by
    revert r
    intro r
    refine RL.consE r fun u us r1 r2 => ?_
    show Ok _ A' (assignInOrder (assign (.Name (nm t.1) t.2) env :: ts.map _) (u :: us)) s _
    refine assignInOrder_cons (wpAny_assign_Name (store_fr (tp := tp) gn x inj (hk t List.mem_cons_self) r1 fun σ1 h1 tk1 hn1 y m1 k1 => ?_))
    refine (putMany_ok gn inj ts ds us _ S' _ _ (up s h1 tk1) hp (r2.mono (fun b o hb e => k1 b o (fun q => hb (.inl (atB gn q))) e) fun a q => .inl q.put0) (fun t' ht => hk t' (List.mem_cons_of_mem _ ht)) y).wp fun _ h2 tk2 hn2 q => ?_
    obtain ⟨σ', ad', z, m2⟩ := q
    exact fin ⟨σ', ad', z, m1.trans m2⟩
theorem assignEach_names (ts : List (Nat × Pos)) : assignEach (ts.map fun t => Expr.Name (nm t.1) t.2) env = ts.map fun t => (false, assign (.Name (nm t.1) t.2) env) := by
  induction ts with
  | nil => rfl
  | cons t ts ih => rw [List.map_cons, List.map_cons, ← ih]; rfl
theorem tuple_ok {A' : Around} (hh : A'.handled = none) (gn : Gn A fr base h₀ N env B) (inj : ∀ i j, nm i = nm j → i = j) {ts : List (Nat × Pos)} {kk : Nat} {pt : Pos} {us : List Value} {ds : List D} {T : Addr} {S' : Sta} (hT : s.heap.IsTuple T us.toArray)
    (hp : putMany S ts ds = some S') (r : RL prog w s.heap (Wf B ad) us ds) (hk : ∀ t ∈ ts, putOk sc (nm t.1) = true) (x : SI prog w nm env sc B s.heap S σ ad) (hl : ts.length = us.length) :
    Ok (model prog w) A' (assign (.Tuple (ts.map fun t => .Name (nm t.1) t.2) kk pt) env (.ref T)) s (fun _ h' => ∃ σ' ad', SI prog w nm env sc B h' S' σ' ad' ∧ Mv tp fr env s.heap ad h' ad') := by
  refine wpAny_assign_Tuple hh hT (by rw [assignEach_names, List.length_map, List.size_toArray, hl]) ?_ fun h₁ he₁ => ?_
  · rw [assignEach_names, List.findIdx?_eq_none_iff]
    intro y hy
    obtain ⟨t, _, rfl⟩ := List.mem_map.mp hy
    rfl
  · have up : ∀ c o, s.heap.get? c = some o → h₁.get? c = some o := fun c o e => he₁ c o (Nat.ne_of_lt (Heap.lt_size e)) e
    have x1 := x.step (tp := tp) gn (Kp.of up)
    rw [assignEach_names, List.map_map]
    refine (putMany_ok (tp := tp) gn inj ts ds us S S' σ ad { s with heap := h₁ } hp (r.mono (fun b o _ e => up b o e) fun a q => .inl q) hk x1).wp fun _ h2 tk2 hn2 q => ?_
    obtain ⟨σ', ad', y, m⟩ := q
    exact fin ⟨σ', ad', y, (Mv.eval gn (Kp.of up)).trans m⟩
theorem putMany_len : ∀ (ts : List (Nat × Pos)) (ds : List D) (S S' : Sta), putMany S ts ds = some S' → ts.length = ds.length
  | [], [], _, _, _ => rfl
  | [], _ :: _, _, _, h => optE h
  | _ :: _, [], _, _, h => optE h
  | t :: ts, d :: ds, S, S', h => congrArg (· + 1) (putMany_len ts ds _ S' h)
theorem swaps_tup (e : X) {ts : List Expr} {k : Nat} {p : Pos} {l : Nat} : swapsWithSole [.Tuple ts k p] (e.py nm fn) l env = pure false := by cases e <;> rfl
theorem stores_tup {e : X} (h : notTup e = true) {ts : List Expr} {k : Nat} {p : Pos} : swappedStores [.Tuple ts k p] (e.py nm fn) env = pure none := by cases e <;> first | rfl | exact absurd h Bool.false_ne_true
variable (am : Am prog w nm fn FT base N)
include am
theorem ex_unp {n : Nat} {ts : List (Nat × Pos)} {kk : Nat} {pt : Pos} {e : X} {p : Pos} {fl : Fl} {S' : Sta} (he : exS nm fn FT sc tp (n + 1) (.unp ts kk pt e p) S = some (fl, S')) (go : Go A fr base h₀ N env B tp s.heap ad)
    (x : SI prog w nm env sc B s.heap S σ ad) (tk : 0 ≤ s.toks) : Ok (model prog w) (A.deeper env) (exec (.Assign [.Tuple (ts.map fun t => .Name (nm t.1) t.2) kk pt] (e.py nm fn) p) env) s (ExP prog w nm tp fr env sc B s.heap ad fl S') := by
  refine J.unp he fun ds S1 hev hnt hk hput => ?_
  refine wpAny_Assign_stores (Go.k am go x hev fun v h1 tk1 hn1 k1 r1 x1 _ => R.tupE r1 fun T us m hw hl rl => ?_) (swaps_tup e) (stores_tup hnt)
  refine (tuple_ok (A' := A.deeper env) (kk := kk) (pt := pt) (tp := tp) (s := up s h1 tk1) go.gn.cx.hd go.gn am.inj (isTup_of_sq hl) hput rl hk x1 (by rw [putMany_len _ _ _ _ hput, rl.length])).wp fun _ h2 tk2 hn2 q => ?_
  obtain ⟨σ', ad', y, m⟩ := q
  exact fin ⟨σ', ad', y, (Mv.eval go.gn k1).trans m, .next⟩
end
end Mine
end
section
set_option maxRecDepth 100000
open PySem PySem.W PyProof.Rows PySem.Calls
set_option autoImplicit false
namespace Mine
section
variable {prog : Program} {w : World} {nm fn : Nat → Str} {FT : List FE} {base : Heap} {N : Nat} {A : Around} {fr : List Env} {env : Env} {sc : Scope} {B : Addr → Prop} {h₀ : Heap} {S : Sta} {σ : Str → Option Value} {ad : Nat → List Addr} {s : Shared} {tp : Bool}
theorem Go.more {M : Addr → Prop} {h : Heap} (g : Go A fr base h₀ N env B tp h ad) : Go A fr base h₀ N env (fun a => B a ∨ M a) tp h ad := ⟨g.gn.more, g.keep, g.nw, g.fmN⟩
variable (prog w nm fn FT base N) in
structure SoundS (n : Nat) : Prop where
  s : ∀ A fr env sc tp B h₀ st S fl S', exS nm fn FT sc tp n st S = some (fl, S') → ∀ σ ad s, Go A fr base h₀ N env B tp s.heap ad → SI prog w nm env sc B s.heap S σ ad → 0 ≤ s.toks → ∀ rest P,
    (∀ f h' tk, s.toks ≤ tk → ExP prog w nm tp fr env sc B s.heap ad fl S' f h' → match (generalizing := false) f with
      | .next => Ok (model prog w) (A.deeper env) (execs rest env) (up s h' tk) P
      | f => P f h') → Ok (model prog w) (A.deeper env) (execs (st.py nm fn ++ rest) env) s P
  b : ∀ A fr env sc tp B h₀ st S fl S', exB nm fn FT sc tp n st S = some (fl, S') → ∀ σ ad s, Go A fr base h₀ N env B tp s.heap ad → SI prog w nm env sc B s.heap S σ ad → 0 ≤ s.toks →
    Ok (model prog w) (A.deeper env) (execs (st.py nm fn) env) s (ExP prog w nm tp fr env sc B s.heap ad fl S')
  w : ∀ A fr env sc tp B h₀ t body S fl S', exW nm fn FT sc tp n t body S = some (fl, S') → ∀ σ ad s, Go A fr base h₀ N env B tp s.heap ad → SI prog w nm env sc B s.heap S σ ad → 0 ≤ s.toks →
    codeAny (model prog w) (A.deeper env) (.whileLoop (t.py nm fn) (body.py nm fn) [] env) (fun r s' => ∃ f, r = .ok f ∧ ∃ h' tk, s' = (up s h' tk) ∧ s.toks ≤ tk ∧ ExP prog w nm tp fr env sc B s.heap ad fl S' f h') s
theorem one_then {A : Around} {st : Stmt} {rest : List Stmt} {P P' : Flow → Heap → Prop} (h : Ok (model prog w) A (exec st env) s P)
    (k : ∀ f h' tk, s.toks ≤ tk → P f h' → match (generalizing := false) f with
      | .next => Ok (model prog w) A (execs rest env) (up s h' tk) P'
      | f => P' f h') : Ok (model prog w) A (execs (st :: rest) env) s P' := by
  refine wpAny_execs_cons (h.wp fun f h' tk hn q => ?_)
  have := k f h' tk hn q
  cases f with
  | next => exact wpAny_mono this (fun _ s' q => let ⟨h'', tk', e, p⟩ := q; ⟨h'', tk', e, p⟩) fun _ _ q => q
  | brk => exact ⟨_, _, rfl, this⟩
  | cont => exact ⟨_, _, rfl, this⟩
  | ret v => exact ⟨_, _, rfl, this⟩
variable (am : Am prog w nm fn FT base N)
include am
theorem ex_ret {n : Nat} {e : X} {p : Pos} {fl : Fl} {S' : Sta} (he : exS nm fn FT sc tp (n + 1) (.ret e p) S = some (fl, S')) (go : Go A fr base h₀ N env B tp s.heap ad)
    (x : SI prog w nm env sc B s.heap S σ ad) (tk : 0 ≤ s.toks) : Ok (model prog w) (A.deeper env) (exec (.Return (some (e.py nm fn)) p) env) s (ExP prog w nm tp fr env sc B s.heap ad fl S') := by
  exact J.ret he fun d hev => wpAny_Return_some (Go.k am go x hev fun v h1 tk1 hn1 k1 r1 x1 _ => fin ⟨σ, ad, x1, Mv.eval go.gn k1, .ret r1⟩)
omit am in
theorem loopE {G : Prop} {f : Sta → Option (Fl × Sta)} {tg : Tg} {d : D} {r : List D} {S : Sta} {x : Fl × Sta} (h : loopF f tg (d :: r) S = some x) (k : ∀ S₂ fl1 S3, bindS tg d S = some S₂ → f S₂ = some (fl1, S3) → (match fl1 with
    | .next => loopF f tg r S3
    | .brk => some (.next, S3)
    | .ret v => some (.ret v, S3)) = some x → G) : G := by
  unfold loopF at h
  cases h1 : bindS tg d S with
  | none => rw [h1] at h; exact optE h
  | some S₂ =>
  cases h2 : f S₂ with
  | none => rw [h1] at h; replace h : (match f S₂ with | some (.next, S₂) => loopF f tg r S₂ | some (.brk, S₂) => some (.next, S₂) | some (.ret v, S₂) => some (.ret v, S₂) | none => none) = some x := h; rw [h2] at h; exact optE h
  | some p =>
  rw [h1] at h
  replace h : (match f S₂ with | some (.next, S₂) => loopF f tg r S₂ | some (.brk, S₂) => some (.next, S₂) | some (.ret v, S₂) => some (.ret v, S₂) | none => none) = some x := h
  rw [h2] at h
  obtain ⟨fl1, S3⟩ := p
  exact k S₂ fl1 S3 h1 h2 (by cases fl1 <;> exact h)
omit am in
@[elab_as_elim] theorem bindSE {m : Tg → D → Sta → Prop} {tg : Tg} {d : D} {S S₂ : Sta} (h : bindS tg d S = some S₂) (k1 : ∀ i p d, m (.one i p) d (S.put i (.fr d))) (k2 : ∀ i p j q kk r a b, m (.two i p j q kk r) (.tup [a, b]) ((S.put i (.fr a)).put j (.fr b))) : m tg d S₂ := by
  cases tg with
  | one i p => exact someE h (k1 i p d)
  | two i p j q kk r =>
    cases d with
    | tup ds =>
      cases ds with
      | nil => exact optE h
      | cons a ds =>
      cases ds with
      | nil => exact optE h
      | cons b ds =>
      cases ds with
      | nil => exact someE h (k2 _ _ _ _ _ _ _ _)
      | cons _ _ => exact optE h
    | _ => exact optE h
theorem tg_ok {tg : Tg} {d : D} {v : Value} {S₂ : Sta} (go : Go A fr base h₀ N env B tp s.heap ad) (x : SI prog w nm env sc B s.heap S σ ad) (hb : bindS tg d S = some S₂) (put : ∀ i ∈ tgVars tg, putK nm sc i = true) (hv : TgVal prog w s.heap (Wf B ad) v d tg) {Q : Unit → Shared → Prop} {E : Value → Shared → Prop}
    (c : ∀ σ' ad' h' tk, s.toks ≤ tk → SI prog w nm env sc B h' S₂ σ' ad' → Mv tp fr env s.heap ad h' ad' → Q () (up s h' tk)) : wpAny (model prog w) (A.deeper env) (assign (tg.py nm) env v) Q E s := by
  revert put hv c
  refine bindSE hb (fun i p d put hv c => ?_) (fun i p j q kk r a b put hv c => ?_)
  · exact wpAny_assign_Name (store_fr (tp := tp) go.gn x am.inj (put i List.mem_cons_self) hv fun σ' h' tk hn y m _ => c _ _ h' tk hn y m)
  · obtain ⟨T, u1, u2, d1, d2, rfl, e, hT, ra, rb⟩ := hv
    cases e
    refine (tuple_ok (A' := A.deeper env) (tp := tp) (kk := kk) (pt := r) (ts := [(i, p), (j, q)]) (us := [u1, u2]) (ds := [a, b]) go.gn.cx.hd go.gn am.inj hT rfl (.cons ra (.cons rb .nil)) (fun t ht => ?_) x rfl).wp fun _ h' tk hn q => ?_
    · exact mem2 (P := fun t : Nat × Pos => putOk sc (nm t.1) = true) ht (put i List.mem_cons_self) (put j (List.mem_cons_of_mem _ List.mem_cons_self))
    · obtain ⟨σ', ad', y, m⟩ := q
      exact c σ' ad' h' tk hn y m
omit am
structure Ft (B : Addr → Prop) (fp wr : List Addr) (ad : Nat → List Addr) (h2 : Heap) (h : Heap) (ad₁ : Nat → List Addr) : Prop where
  fpo : ∀ b ∈ fp, ∀ j, b ∉ ad₁ j
  old : ∀ b o, ¬ Wf B ad b → b ∉ wr → h2.get? b = some o → h.get? b = some o
  new : ∀ j a, a ∈ ad₁ j → (∃ l, a ∈ ad l) ∨ h2.get? a = none
theorem Ft.move {fp wr : List Addr} {ad₁ ad' : Nat → List Addr} {h2 h h' : Heap} (gn : Gn A fr base h₀ N env B) (f : Ft B fp wr ad h2 h ad₁) (m : Mv tp fr env h ad₁ h' ad') (alive : ∀ b ∈ fp, ∃ o, h.get? b = some o) (nb : ∀ j a, a ∈ ad' j → ¬ (B a ∨ a ∈ wr)) : Ft B fp wr ad h2 h' ad' := by
  refine ⟨fun b hb j q => (m.new j b q).elim (fun ⟨l, z⟩ => f.fpo b hb l z) fun z => ?_, fun b o hb hw e => m.kept b o (fun q => hb (.inl (atB gn q))) (fun q => hb (.inl (gn.frB b q.2))) (fun j q => (f.new j b q).elim (fun ⟨l, z⟩ => hb (.inr ⟨l, z⟩)) fun z => ?_) (f.old b o hb hw e),
    fun j a q => (m.new j a q).elim (fun ⟨l, z⟩ => f.new l a z) fun z => ?_⟩
  · obtain ⟨o, e⟩ := alive b hb; rw [e] at z; cases z
  · rw [e] at z; cases z
  · by_cases ha : ∃ l, a ∈ ad l
    · exact .inl ha
    · refine .inr ?_
      cases q2 : h2.get? a with
      | none => rfl
      | some o => rw [f.old a o (fun z => z.elim (fun z => nb j a q (.inl z)) ha) (fun z => nb j a q (.inr z)) q2] at z; cases z
inductive FI (prog : Program) (w : World) (nm : Nat → Str) (env : Env) (sc : Scope) (B : Addr → Prop) (tp : Bool) (fr : List Env) (fp wr : List Addr) (ad : Nat → List Addr) (hs h2 : Heap) (At : Nat → Heap → Prop) (L : Nat → Sta → Prop) (i : Nat) (h : Heap) : Prop
  | mk (S₁ : Sta) (σ₁ : Str → Option Value) (ad₁ : Nat → List Addr) (at' : At i h) (lp : L i S₁) (x : SI prog w nm env sc (fun a => B a ∨ a ∈ wr) h S₁ σ₁ ad₁) (m : Mv tp fr env hs ad h ad₁) (f : Ft B fp wr ad h2 h ad₁) : FI prog w nm env sc B tp fr fp wr ad hs h2 At L i h
include am
theorem for_turn {n : Nat} (ih : SoundS prog w nm fn FT base N n) {tg : Tg} {body : Bl} {I : Addr} {fp wr : List Addr} {At : Nat → Heap → Prop} {ds : List D} {en : Bool} {hs h2 : Heap} {ad₁ : Nat → List Addr} {S₂ S3 : Sta} {fl1 : Fl} {d : D} {i : Nat} (go : Go A fr base h₀ N env B tp hs ad)
    (wk : Wk prog w (A.deeper env) I fp wr ds en h2 (Wf B ad) At) (hwr : ∀ b ∈ wr, hs.get? b = none) (wrF : ∀ b ∈ wr, ¬ Fm.all env b) (fpOff : ∀ b ∈ fp, ¬ Fm.at env (fun _ => True) b ∧ ¬ SS fr tp b) (two : tg.two? = en) (put : ∀ i ∈ tgVars tg, putK nm sc i = true)
    (hd : ds[i]? = some d) (hb : bindS tg d S = some S₂) (hbody : exB nm fn FT sc tp n body S₂ = some (fl1, S3)) (hat : At i s.heap) (x : SI prog w nm env sc (fun a => B a ∨ a ∈ wr) s.heap S σ ad₁) (m : Mv tp fr env hs ad s.heap ad₁) (f : Ft B fp wr ad h2 s.heap ad₁)
    {QN : Shared → Prop} {QF : Flow → Shared → Prop} {E : Value → Shared → Prop}
    (hQ : ∀ f σ₅ ad₅ h5 tk5, s.toks ≤ tk5 → At (i + 1) h5 → SI prog w nm env sc (fun a => B a ∨ a ∈ wr) h5 S3 σ₅ ad₅ → Mv tp fr env hs ad h5 ad₅ → Ft B fp wr ad h2 h5 ad₅ → FlOk prog w h5 (Wf (fun a => B a ∨ a ∈ wr) ad₅) fl1 f → QF f (up s h5 tk5)) :
    wpAny (model prog w) (A.deeper env) (pyNext (.ref I)) (fun r s₁ => match r with
      | none => QN s₁
      | some v => wpAny (model prog w) (A.deeper env) (letOwnedTupleGo (tg.py nm) (.ref I) v) (fun _ s₂ => wpAny (model prog w) (A.deeper env) (assign (tg.py nm) env v) (fun _ s₃ => wpAny (model prog w) (A.deeper env) (execs (body.py nm fn) env) (fun f s₄ => QF f s₄) E s₃) E s₂) E s₁) E s := by
  refine nextV_ok (nm := nm) (W := Wf (fun a => B a ∨ a ∈ wr) ad₁) (tg := tg) wk hat hd two (fun a q => .inl (.inr q)) (fun a q => ?_) f.old (fun v s₁ q => q) fun v h3 tk3 hn3 hat3 k3 hval => ?_
  · exact q.elim (fun q => q.elim (fun q => .inl (.inl q)) fun q => .inr (.inl q)) fun ⟨j, q⟩ => (f.new j a q).elim (fun z => .inl (.inr z)) fun z => .inr (.inr z)
  have alive : ∀ {k h}, At k h → ∀ b ∈ fp, ∃ o, h.get? b = some o := fun hat b hb => wk.1 _ _ hat b hb
  have x3 := x.off k3 (fun b hb => .inr hb) wrF fun b hb => alive hat3 b (wk.sub b hb)
  have m3 := m.off (M := fun a => a ∈ wr) hwr k3
  have f3 : Ft B fp wr ad h2 h3 ad₁ := ⟨f.fpo, fun b o h1 h2 e => k3 b o h2 (f.old b o h1 h2 e), f.new⟩
  refine tg_ok (s := up s h3 tk3) am (go.move m3).more x3 hb put hval fun σ₄ ad₄ h4 tk4 hn4 x4 m4 => ?_
  have at4 : At (i + 1) h4 := wk.frame hat3 fun b hb o e => m4.kept b o (fpOff b hb).1 (fpOff b hb).2 (fun j => f.fpo b hb j) e
  have f4 := f3.move go.gn m4 (alive hat3) x4.nb
  have m34 := m3.trans m4
  refine (ih.b A fr env sc tp _ h₀ body S₂ fl1 S3 hbody σ₄ ad₄ (up s h4 tk4) (go.move m34).more x4 (Nat.zero_le _)).wp fun f h5 tk5 hn5 q => ?_
  obtain ⟨σ₅, ad₅, x5, m5, fo⟩ := q
  exact hQ f σ₅ ad₅ h5 tk5 (Nat.le_trans hn3 (Nat.le_trans hn4 hn5)) (wk.frame at4 fun b hb o e => m5.kept b o (fpOff b hb).1 (fpOff b hb).2 (fun j => f4.fpo b hb j) e) x5 (m34.trans m5) (f4.move go.gn m5 (alive at4) x5.nb) fo
theorem ex_for {n : Nat} (ih : SoundS prog w nm fn FT base N n) {tg : Tg} {src : X} {body : Bl} {p : Pos} {fl : Fl} {S' : Sta} (he : exS nm fn FT sc tp (n + 1) (.for tg src body p) S = some (fl, S')) (go : Go A fr base h₀ N env B tp s.heap ad)
    (x : SI prog w nm env sc B s.heap S σ ad) (tk : 0 ≤ s.toks) : Ok (model prog w) (A.deeper env) (exec (.For (tg.py nm) (src.py nm fn) (body.py nm fn) [] p) env) s (ExP prog w nm tp fr env sc B s.heap ad fl S') := by
  refine J.for' he fun ds en hsrc two put hlp => ?_
  cases n with
  | zero => exact optE hsrc
  | succ n =>
  refine wpAny_For ((sound_src am (sound am n n (Nat.le_refl _)) _ _ _ _ _ _ _ hsrc _ _ _ _ _ (x.st go.gn go.keep tk)).wp fun xv h1 tk1 hn1 q => ?_) (fun x => folded_py src x)
  refine (q tk1 hn1).wp2 fun it h2 tk2 hn2 k2 q => ?_
  obtain ⟨I, fp, wr, At, rfl, hwr, hfp, hat, wk⟩ := q
  have hMB : ∀ a, a ∈ wr → ¬ B a := fun a q z => by obtain ⟨o, e⟩ := x.al a z; rw [hwr a q] at e; cases e
  have wrF : ∀ b ∈ wr, ¬ Fm.all env b := fun b hb z => hMB b hb (go.gn.fmB b z)
  have wrA : ∀ b ∈ wr, ∀ i, b ∉ ad i := fun b hb i z => by
    cases hs : S i with
    | none => rw [x.no i hs] at z; cases z
    | some sl => obtain ⟨_, _, _, c⟩ := x.sl i sl hs; obtain ⟨o, e⟩ := c.alive b z; rw [hwr b hb] at e; cases e
  have fpOff : ∀ b ∈ fp, ¬ Fm.at env (fun _ => True) b ∧ ¬ SS fr tp b := fun b hb => (hfp b hb).elim (fun q => ⟨fun z => hMB b q (atB go.gn z), fun z => hMB b q (go.gn.frB b z.2)⟩) fun q => ⟨fun z => q (.inl (atB go.gn z)), fun z => q (.inl (go.gn.frB b z.2))⟩
  refine codeAny_mono (codeAny_forLoop_any (R := fun r s' => ∃ f, r = .ok f ∧ OkP s (ExP prog w nm tp fr env sc B s.heap ad fl S') f s')
    (LInv (up s h2 tk2) ds.length (FI prog w nm env sc B tp fr fp wr ad s.heap h2 At fun i S₁ => loopF (exB nm fn FT sc tp (n + 1) body) tg (ds.drop i) S₁ = some (fl, S'))) ?_ (ds.length + 1)
    (.mk 0 h2 tk2 (Nat.le_refl _) (Nat.zero_le _) ⟨S, σ, ad, hat, hlp, x.lift (M := fun a => a ∈ wr) go.gn k2 fun a q => ⟨hwr a q, wk.1 _ _ hat a (wk.sub a q)⟩, Mv.eval go.gn k2, fun b hb j q => (hfp b hb).elim (fun z => wrA b z j q) fun z => z (.inr ⟨j, q⟩), fun _ _ _ _ e => e, fun j a q => .inl ⟨j, q⟩⟩)) fun r s' q => ?_
  rotate_left
  · obtain ⟨f, rfl, q⟩ := q; exact q
  rintro k s' ⟨i, h, tk', htk', hi, S₁, σ₁, ad₁, hat₁, hlp, x₁, m₁, f₁⟩
  by_cases hlt : i < ds.length
  · obtain ⟨d, hd⟩ : ∃ d, ds[i]? = some d := ⟨_, List.getElem?_eq_getElem hlt⟩
    have hdrop : ds.drop i = d :: ds.drop (i + 1) := by
      rw [List.drop_eq_getElem_cons hlt]
      rw [List.getElem?_eq_getElem hlt] at hd; cases hd; rfl
    rw [hdrop] at hlp
    refine loopE hlp fun S₂ fl1 S3 hb hbody hend => for_turn (s := up s h tk') am ih go wk hwr wrF fpOff two put hd hb hbody hat₁ x₁ m₁ f₁ fun f σ₅ ad₅ h5 tk5 hn5 at5 x5 m5 f5 fo => ?_
    cases fo with
    | next => exact ⟨ds.length + 1 - (i + 1), down1 hlt, .mk (i + 1) h5 tk5 (Nat.le_trans htk' hn5) hlt ⟨S3, σ₅, ad₅, at5, hend, x5, m5, f5⟩⟩
    | brk =>
      refine J.end' hend ?_
      exact ⟨.next, rfl, fin ⟨σ₅, ad₅, x5.weak (M := fun a => a ∈ wr) go.gn (fun _ _ _ e => e) hMB, m5, .next⟩⟩
    | ret r =>
      refine J.end' hend ?_
      exact ⟨_, rfl, fin ⟨σ₅, ad₅, x5.weak (M := fun a => a ∈ wr) go.gn (fun _ _ _ e => e) hMB, m5, .ret (r.mono (fun _ _ _ e => e) fun a q => .inl (q.imp .inl id))⟩⟩
  · have hin : i = ds.length := Nat.le_antisymm hi (Nat.not_lt.mp hlt)
    rw [hin] at hat₁ hlp
    rw [List.drop_length] at hlp
    refine done_ok (s := up s h tk') wk hat₁ fun h' tk'' hn' hk' => wpAny_execs_nil ?_
    refine J.end' hlp ?_
    exact ⟨.next, rfl, fin ⟨σ₁, ad₁, x₁.weak (M := fun a => a ∈ wr) go.gn hk' hMB, m₁.off (M := fun a => a ∈ wr) hwr hk', .next⟩⟩
end
end Mine
end
section
set_option maxRecDepth 100000
open PySem PySem.W PyProof.Rows PySem.Calls
set_option autoImplicit false
namespace Mine
section
variable {prog : Program} {w : World} {nm fn : Nat → Str} {FT : List FE} {base : Heap} {N : Nat} {A : Around} {fr : List Env} {env : Env} {sc : Scope} {B : Addr → Prop} {h₀ : Heap} {S : Sta} {σ : Str → Option Value} {ad : Nat → List Addr} {s : Shared} {tp : Bool}
variable (am : Am prog w nm fn FT base N)
include am
theorem spliced_empties : ∀ (ps : List Pos) (p : Pos) (s : Shared), Ok (model prog w) A (spliced (backTo p (starEach (ps.map fun q => Expr.List [] q) env))) s (fun us h' =>
    (∀ b o, s.heap.get? b = some o → h'.get? b = some o) ∧ s.heap.objs.size ≤ h'.objs.size ∧ ∃ bs : List Addr, us = bs.map .ref ∧ bs.Nodup ∧ bs.length = ps.length ∧ ∀ b ∈ bs, s.heap.objs.size ≤ b ∧ b < h'.objs.size ∧ h'.get? b = some (sq "list" [] 0))
  | [], p, s => Calls.spliced_nil ⟨_, _, rfl, fun _ _ e => e, Nat.le_refl _, [], rfl, .nil, rfl, fun b hb => nomatch hb⟩
  | q :: ps, p, s => by
    refine Calls.spliced_cons (wpAny_List (pos := q) (elts := []) (Calls.spliced_nil ⟨by simp, ?_⟩))
    refine (spliced_empties ps p { s with heap := s.heap.push (sq "list" [] 0) }).wp fun us h' tk hn r => ?_
    obtain ⟨k, hs, bs, rfl, hn, hl, hb⟩ := r
    dsimp only at hs hb k
    have hsz : (s.heap.push (sq "list" [] 0)).objs.size = s.heap.objs.size + 1 := Heap.size_push ..
    have hs' : s.heap.objs.size + 1 ≤ h'.objs.size := by rw [← hsz]; exact hs
    have hb : ∀ b ∈ bs, s.heap.objs.size + 1 ≤ b ∧ b < h'.objs.size ∧ h'.get? b = some (sq "list" [] 0) := fun b q => by rw [← hsz]; exact hb b q
    refine ⟨_, _, rfl, fun b o e => k b o (Heap.get?_push_of_some _ e), Nat.le_of_succ_le hs', s.heap.objs.size :: bs, rfl, List.nodup_cons.mpr ⟨fun q => ?_, hn⟩, by simp [hl], fun b hb' => ?_⟩
    · exact absurd (hb _ q).1 (Nat.not_succ_le_self _)
    · rcases List.mem_cons.mp hb' with rfl | hb'
      · exact ⟨Nat.le_refl _, hs', k _ _ (Heap.get?_push_size _ rfl)⟩
      · obtain ⟨a1, a2, a3⟩ := hb b hb'; exact ⟨Nat.le_of_succ_le a1, a2, a3⟩
omit am in
theorem LL.empties {h1 : Heap} {o : Obj} : ∀ (bs : List Addr) (ps : List Pos), bs.length = ps.length → (∀ b ∈ bs, h1.get? b = some (sq "list" [] 0)) → LL prog w (h1.push o) bs (ps.map fun _ => [])
  | [], [], _, _ => .nil
  | [], _ :: _, hl, _ => nomatch hl
  | _ :: _, [], hl, _ => nomatch hl
  | b :: bs, _ :: ps, hl, hb => .cons (Heap.get?_push_of_some _ (hb b List.mem_cons_self)) .nil rfl (LL.empties bs ps (Nat.succ.inj hl) fun b hb' => hb b (List.mem_cons_of_mem _ hb'))
theorem ex_ownL {n : Nat} {i : Nat} {pi pl : Pos} {ps : List Pos} {p : Pos} {fl : Fl} {S' : Sta} (he : exS nm fn FT sc tp (n + 1) (.ownL i pi pl ps p) S = some (fl, S')) (go : Go A fr base h₀ N env B tp s.heap ad)
    (x : SI prog w nm env sc B s.heap S σ ad) (_tk : 0 ≤ s.toks) : Ok (model prog w) (A.deeper env) (exec (.Assign [.Name (nm i) pi] (.List (ps.map fun q => .List [] q) pl) p) env) s (ExP prog w nm tp fr env sc B s.heap ad fl S') := by
  refine J.ownL he fun hp hps => wpAny_Assign_Name (wpAny_List ((spliced_empties (A := A.deeper env) am ps pl s).wp2 fun us h1 tk1 hn1 k1 q => ?_)) rfl
  obtain ⟨hs1, bs, rfl, hn, hl, hb⟩ := q
  refine ⟨by rw [List.length_map, hl, sizeLine_eq]; exact Nat.le_trans hps (by decide), ?_⟩
  have k2 : ∀ b o, h1.get? b = some o → (h1.push (sq "list" (bs.map .ref) 0)).get? b = some o := fun b o e => Heap.get?_push_of_some _ e
  have k12 : ∀ b o, s.heap.get? b = some o → (h1.push (sq "list" (bs.map .ref) 0)).get? b = some o := fun b o e => k2 b o (k1 b o e)
  have hge : ∀ b ∈ h1.objs.size :: bs, s.heap.objs.size ≤ b := fun b hb' => (List.mem_cons.mp hb').elim (fun q => q ▸ hs1) fun q => (hb b q).1
  have no : ∀ b ∈ h1.objs.size :: bs, s.heap.get? b = none := fun b hb' => Heap.get?_none_of_le (hge b hb')
  have newAd : ∀ b ∈ h1.objs.size :: bs, ∀ k, b ∉ ad k := fun b hb' k q => by
    cases hs : S k with
    | none => rw [x.no k hs] at q; cases q
    | some y => obtain ⟨_, _, _, c⟩ := x.sl k y hs; obtain ⟨o, e⟩ := c.alive b q; rw [no b hb'] at e; cases e
  have x3 := x.lift (M := fun b => b ∈ h1.objs.size :: bs) go.gn (tp := tp) (Kp.of k12) fun b hb' => ⟨no b hb', (List.mem_cons.mp hb').elim (fun q => q ▸ ⟨_, Heap.get?_push_size _ rfl⟩) fun q => ⟨_, k2 _ _ (hb b q).2.2⟩⟩
  refine (store_slot (s := up s (h1.push (sq "list" (bs.map .ref) 0)) tk1) (A' := A.deeper env) go.gn (x.step (tp := tp) go.gn (Kp.of k12)) am.inj hp (sl := .ll (ps.map fun _ => [])) (as := h1.objs.size :: bs) (.ll (Heap.get?_push_size _ rfl) (LL.empties bs ps hl fun b hb' => (hb b hb').2.2))
    (fun b hb' q => by obtain ⟨o, e⟩ := x.al b q; rw [no b hb'] at e; cases e) (fun k _ b hb' => newAd b hb' k) (List.nodup_cons.mpr ⟨fun q => absurd (hb _ q).2.1 (Nat.lt_irrefl _), hn⟩) fun k y v hk hS hv _ => ?_).wp2 fun _ h4 tk4 hn4 z q => fin ⟨_, _, z, (Mv.eval go.gn (Kp.of k12)).store q.1 q.2 (fun b hb' => .inr (no b hb')), .next⟩
  refine (x3.at hS hv).keep (fun _ _ _ e => e) (fun _ _ _ e => e) fun b q => .inl (q.elim (fun q => .inl (.inl q)) fun ⟨j, q⟩ => ?_)
  unfold adPut at q
  split at q
  · exact .inl (.inr q)
  · exact .inr ⟨j, q⟩
omit am in
theorem LL.set {h h' : Heap} : ∀ {bs : List Addr} {dss : List (List D)} (j : Nat) (b : Addr) (us : List Value) (m : Nat) (ds : List D), LL prog w h bs dss → bs.Nodup → bs[j]? = some b → h'.get? b = some (sq "list" us m) → RL prog w h' (fun _ => False) us ds → ds.all D.atom = true →
    (∀ c o, c ≠ b → h.get? c = some o → h'.get? c = some o) → LL prog w h' bs (dss.set j ds)
  | _, _, j, b, us, m, ds, .nil, _, hj, _, _, _, _ => optE hj
  | _, _, 0, b, us, m, ds, .cons e r hd y, hn, hj, hl, rl, hat, k => by
    simp at hj; subst hj
    rw [List.nodup_cons] at hn
    exact .cons hl rl hat (y.keep fun c hc o e => k c o (fun q => hn.1 (q ▸ hc)) e)
  | _, _, j + 1, b, us, m, ds, .cons e r hd y, hn, hj, hl, rl, hat, k => by
    rw [List.nodup_cons] at hn
    exact .cons (k _ _ (fun q => hn.1 (q ▸ List.mem_of_getElem? (l := _) (i := j) hj)) e) (r.atoms hd) hd (LL.set j b us m ds y hn.2 hj hl rl hat k)
omit am in
theorem LL.at {h : Heap} : ∀ {bs : List Addr} {dss : List (List D)} (j : Nat) (ds : List D), LL prog w h bs dss → dss[j]? = some ds → ∃ b us m, bs[j]? = some b ∧ h.get? b = some (sq "list" us m) ∧ RL prog w h (fun _ => False) us ds ∧ ds.all D.atom = true
  | _, _, j, ds, .nil, hj => optE hj
  | _, _, 0, ds, .cons e r hd y, hj => someE hj ⟨_, _, _, rfl, e, r, hd⟩
  | _, _, j + 1, ds, .cons e r hd y, hj => LL.at j ds y hj
omit am in
theorem LL.length {h : Heap} {bs : List Addr} {dss : List (List D)} (x : LL prog w h bs dss) : bs.length = dss.length := by
  induction x with
  | nil => rfl
  | cons _ _ _ _ ih => rw [List.length_cons, List.length_cons, ih]
end
end Mine
end
section
set_option maxRecDepth 100000
open PySem PySem.W PyProof.Rows PySem.Calls
set_option autoImplicit false
namespace Mine
section
variable {prog : Program} {w : World} {nm fn : Nat → Str} {FT : List FE} {base : Heap} {N : Nat} {A : Around} {fr : List Env} {env : Env} {sc : Scope} {B : Addr → Prop} {h₀ : Heap} {S : Sta} {σ : Str → Option Value} {ad : Nat → List Addr} {s : Shared} {tp : Bool}
theorem put_same {i : Nat} {sl : Slot} (h : S i = some sl) : S.put i sl = S := by
  funext k; unfold Sta.put; split
  · rename_i e; rw [e, h]
  · rfl
variable (am : Am prog w nm fn FT base N)
include am
theorem ex_repIf {n : Nat} {i : Nat} {y z : Str} {k0 k1 k2 : Nat} {q1 q2 q3 q4 q5 q6 q7 q8 q9 q10 q11 : Pos} {fl : Fl} {S' : Sta} (he : exS nm fn FT sc tp (n + 1) (.repIf i y k0 q1 q2 q3 q4 q5 q6 k1 q7 z k2 q8 q9 q10 q11) S = some (fl, S')) (go : Go A fr base h₀ N env B tp s.heap ad)
    (x : SI prog w nm env sc B s.heap S σ ad) (tk : 0 ≤ s.toks) :
    Ok (model prog w) (A.deeper env) (exec (.If (.Compare (.Constant (.str y) k0 q1) [.In] [.Name (nm i) q2] q3) [.Assign [.Name (nm i) q4] (.Call (.Attribute (.Name (nm i) q5) "replace" q6) [.Constant (.str y) k1 q7, .Constant (.str z) k2 q8] [] q9) q10] [] q11) env) s (ExP prog w nm tp fr env sc B s.heap ad fl S') := by
  refine J.repIf he fun t hi hp hpos hlen hz hyz => x.frE hi fun u hu ru => wpAny_If (wpAny_isTrue_Compare1 (wpAny_Constant_str ?_) rfl)
  have hlen : t.length ≤ 100000 := hlen
  refine SI.nameE (s := { s with toks := s.toks + 1 }) am go.gn.g x hi hu fun tk1 hn1 => ?_
  have hu8 : (A.deeper env).units + 8 < cLine := by have := (x.st go.gn go.keep tk).cx.un; omega
  refine (cmp_ok (op := .isIn) (s := { s with toks := tk1 }) (W := fun _ => False) (show cmpD .isIn (.str y) (.str t) = some (Txt.contains t y) from rfl) (R.str (W := fun _ => False) y s.toks) ru hu8).wp2 fun v2 h2 tk2 hn2 kk2 rv2 => R.boolE rv2 (wpAny_truthy_bool ?_)
  have t2 : 1 ≤ tk2 := Nat.le_trans (Nat.le_trans (Nat.le_add_left 1 _) hn1) hn2
  have mv2 := Mv.eval (ad := ad) (tp := tp) go.gn (Kp.of kk2)
  have x2 : SI prog w nm env sc B h2 S σ ad := x.step (tp := tp) go.gn (Kp.of kk2)
  cases hc : Txt.contains t y with
  | false =>
    rw [if_neg Bool.false_ne_true, if_neg Bool.false_ne_true, put_same hi]
    exact wpAny_execs_nil (fin ⟨σ, ad, x2, mv2, .next⟩)
  | true =>
    rw [if_pos rfl, if_pos rfl]
    refine wpAny_execs_cons (wpAny_Assign_Name (wpAny_Call_method_lateS rfl rfl hpos (SI.nameE (s := up s h2 tk2) am go.gn.g x2 hi hu fun tk3 hn3 => x2.frE hi fun u' hu' ru' => ?_)))
    rw [← Option.some.inj (hu'.symm.trans hu)]
    refine R.strE ru' fun t3 => ⟨"str", "str.replace", F.plainAttrs_str, F.slot_str_replace, F.type_str_replace, typeIs_str _ _ _, (fun a q => nomatch q), ?_⟩
    refine callWith_builtin rfl (evalArgs_plain (spliced_cons (wpAny_Constant_str (k := k1) (pos := q7) (spliced_cons (wpAny_Constant_str (k := k2) (pos := q8) (spliced_nil ?_))))))
    have htk : 1 ≤ tk3 := Nat.le_trans t2 hn3
    refine SC.replaceW (by show tk3 ≠ 0; omega) (Nat.succ_ne_zero _) (Nat.ne_of_lt (Nat.lt_succ_self _)) hyz (by omega) hz fun t' k => ?_
    exact store_fr (tp := tp) (s := up s h2 k) go.gn x2 am.inj hp (.str _ _) fun σ' h4 tk4 hn4 z m _ => wpAny_execs_nil (fin ⟨_, _, z, mv2.trans m, .next⟩)
end
end Mine
end
section
set_option maxRecDepth 100000
open PySem PySem.W PyProof.Rows PySem.Calls
set_option autoImplicit false
namespace Mine
section
variable {prog : Program} {w : World} {nm fn : Nat → Str} {FT : List FE} {base : Heap} {N : Nat} {A : Around} {fr : List Env} {env : Env} {sc : Scope} {B : Addr → Prop} {h₀ : Heap} {S : Sta} {σ : Str → Option Value} {ad : Nat → List Addr} {s : Shared} {tp : Bool}
variable (am : Am prog w nm fn FT base N)
include am
theorem ex_appI {n : Nat} {i : Nat} {pi : Pos} {kx : X} {pk pa : Pos} {e : X} {pc p : Pos} {fl : Fl} {S' : Sta} (he : exS nm fn FT sc tp (n + 1) (.appI i pi kx pk pa e pc p) S = some (fl, S')) (go : Go A fr base h₀ N env B tp s.heap ad)
    (x : SI prog w nm env sc B s.heap S σ ad) (tk : 0 ≤ s.toks) : Ok (model prog w) (A.deeper env) (exec (.Expr (.Call (.Attribute (.Subscript (.Name (nm i) pi) (kx.py nm fn) pk) "append" pa) [e.py nm fn] [] pc) p) env) s (ExP prog w nm tp fr env sc B s.heap ad fl S') := by
  refine J.appI he fun dss j tj d td ds hi hkv hev hj0 hds hat hpos hz => x.llE hi fun a bs m0 hu hadi _ hLL0 => ?_
  have get : ∀ {h' : Heap}, SI prog w nm env sc B h' S σ ad → ∃ m, h'.get? a = some (sq "list" (bs.map .ref) m) ∧ LL prog w h' bs dss := fun {h'} y => by
    have c := y.at hi hu
    rw [hadi] at c
    cases c with | ll e1 e2 => exact ⟨_, e1, e2⟩
  refine gg fun G₀ kk => ?_
  obtain ⟨b, us0, mb0, hbj, hb0, _, _⟩ := hLL0.at j.toNat ds hds
  refine kk ?_
  have hjlt : j.toNat < bs.length := (List.getElem?_eq_some_iff.mp hbj).1
  have hbl : bs.length ≤ 100000 := by rw [hLL0.length]; exact hz.2
  refine wpAny_Expr_any ?_ (kind_no_inter am go.gn.g) rfl
  refine wpAny_Call_method_lateS rfl (by rw [star_py]; rfl) hpos (Subscript_ (SI.nameE am go.gn.g x hi hu fun tk1 hn1 => Go.k (s := up s s.heap tk1) am go x hkv fun v2 h2 tk2 hn2 k2 r2 x2 go2 => R.intE r2 fun t => ?_))
  obtain ⟨m2, hl2, hLL2⟩ := get x2
  refine tail_any (T := "list") ⟨_, hl2, rfl⟩ slot_list_getitem.lookup (wpAny_getItem_list (x := .ref b) (isList_of_sq hl2) hj0 (by omega) (by rw [List.getElem?_toArray, List.getElem?_map, hbj]; rfl) ?_) (sub_py kx _ _)
  refine gg fun G₀ kk => ?_
  obtain ⟨b', us2, mb2, hbj2, hb2, _, _⟩ := hLL2.at j.toNat ds hds
  refine kk ?_
  rw [← Option.some.inj (hbj.symm.trans hbj2)] at hb2
  refine ⟨"list", "list.append", F.plainAttrs_list, F.slot_list_append, F.type_list_append, ⟨_, hb2, rfl⟩, (fun c q => by cases q; exact ⟨_, hb2, rfl⟩), ?_⟩
  rw [star_py]
  refine callWith_builtin rfl (evalArgs_plain (spliced_cons (Go.k (s := up s h2 tk2) am go2 x2 hev fun v3 h3 tk3 hn3 k3 r3 x3 _ => spliced_nil ?_)))
  obtain ⟨m3, hl3, hLL3⟩ := get x3
  refine gg fun G₀ kk => ?_
  obtain ⟨b', us, m, hbj3, hb3, rl, hds'⟩ := hLL3.at j.toNat ds hds
  refine kk ?_
  rw [← Option.some.inj (hbj.symm.trans hbj3)] at hb3
  refine wpAny_list_append_plain (items := us.toArray) ⟨m, hb3⟩ (fun h4 hl4 hsb => ?_) (by rw [List.size_toArray, rl.length, sizeLine_eq]; have : ds.length ≤ 100000 := hz.1; omega)
  obtain ⟨m', hl4⟩ := hl4
  rw [show ({ cls := .type "list", data := .seq (us.toArray.push v3) m' } : Obj) = sq "list" (us ++ [v3]) m' by simp [sq]] at hl4
  have hat' : (ds ++ [d]).all D.atom = true := by rw [List.all_append, hds']; exact (Bool.and_eq_true _ _).mpr ⟨rfl, (Bool.and_eq_true _ _).mpr ⟨hat, rfl⟩⟩
  have hbmem : b ∈ bs := List.mem_of_getElem? hbj
  have hnd := List.nodup_cons.mp (hadi ▸ x3.nd i)
  have ym := own_change (tp := tp) (s := up s h3 tk3) (h' := h4) (sl' := .ll (dss.set j.toNat (ds ++ [d]))) x3 hi hu go.gn (fun c o hc e => (hsb.2 c fun q => hc (by rw [hadi, q]; exact List.mem_cons_of_mem _ hbmem)).trans e)
    (by rw [hadi]; exact .ll ((hsb.2 a fun q => hnd.1 (q ▸ hbmem)).trans hl3) (LL.set j.toNat b _ m' _ hLL3 hnd.2 hbj hl4 ((rl.append (.cons (r3.of_atom hat) .nil)).atoms hat') hat' fun c o hc e => (hsb.2 c hc).trans e))
  exact fin ⟨_, _, ym.1, ((Mv.eval go.gn k2).trans (Mv.eval go.gn k3)).trans ym.2, .next⟩
omit am in
theorem whlE {G : Prop} {n : Nat} {t : X} {body : Bl} {x : Fl × Sta} (h : exW nm fn FT sc tp (n + 1) t body S = some x) (k0 : evT nm fn FT n sc t tp (rhoOf S) = some false → some (.next, S) = some x → G)
    (k1 : ∀ fl1 S2, evT nm fn FT n sc t tp (rhoOf S) = some true → exB nm fn FT sc tp n body S = some (fl1, S2) → (match fl1 with
      | .next => exW nm fn FT sc tp n t body S2
      | .brk => some (.next, S2)
      | .ret d => some (.ret d, S2)) = some x → G) : G := by
  refine I.bT ((Q.wstep t body).symm.trans h) (fun ht h => ?_) fun ht h => k0 ht h
  cases hb : exB nm fn FT sc tp n body S with
  | none => rw [hb] at h; exact optE h
  | some p =>
    rw [hb] at h
    obtain ⟨fl1, S2⟩ := p
    exact k1 fl1 S2 ht hb (by cases fl1 <;> exact h)
omit am in
theorem blE {G : Prop} {n : Nat} {a : Sm} {r : Bl} {x : Fl × Sta} (h : exB nm fn FT sc tp (n + 1) (.cons a r) S = some x) (k : ∀ fl1 S1, exS nm fn FT sc tp n a S = some (fl1, S1) → (match fl1 with
      | .next => exB nm fn FT sc tp n r S1
      | fl1 => some (fl1, S1)) = some x → G) : G := by
  replace h := (Q.bcons a r).symm.trans h
  cases ha : exS nm fn FT sc tp n a S with
  | none => rw [ha] at h; exact optE h
  | some p =>
    rw [ha] at h
    obtain ⟨fl1, S1⟩ := p
    exact k fl1 S1 ha (by cases fl1 <;> exact h)
inductive WI (prog : Program) (w : World) (nm : Nat → Str) (tp : Bool) (fr : List Env) (env : Env) (sc : Scope) (B : Addr → Prop) (n : Nat) (s : Shared) (ad : Nat → List Addr) (L : Nat → Sta → Prop) : Nat → Shared → Prop
  | mk (k : Nat) (S₁ : Sta) (σ₁ : Str → Option Value) (ad₁ : Nat → List Addr) (h : Heap) (tk : Nat) (hk : k ≤ n) (htk : s.toks ≤ tk) (lp : L k S₁) (x : SI prog w nm env sc B h S₁ σ₁ ad₁) (m : Mv tp fr env s.heap ad h ad₁) : WI prog w nm tp fr env sc B n s ad L k (up s h tk)
theorem while_ok {n : Nat} (ih : ∀ m, m < n → SoundS prog w nm fn FT base N m) {t : X} {body : Bl} {fl : Fl} {S' : Sta} (he : exW nm fn FT sc tp n t body S = some (fl, S')) (go : Go A fr base h₀ N env B tp s.heap ad)
    (x : SI prog w nm env sc B s.heap S σ ad) (tk : 0 ≤ s.toks) :
    codeAny (model prog w) (A.deeper env) (.whileLoop (t.py nm fn) (body.py nm fn) [] env) (fun r s' => ∃ f, r = .ok f ∧ ∃ h' tk, s' = (up s h' tk) ∧ s.toks ≤ tk ∧ ExP prog w nm tp fr env sc B s.heap ad fl S' f h') s := by
  refine codeAny_whileLoop (WI prog w nm tp fr env sc B n s ad fun k S₁ => exW nm fn FT sc tp k t body S₁ = some (fl, S')) ?_ n (.mk n S σ ad s.heap s.toks (Nat.le_refl _) (Nat.le_refl _) he x Mv.refl)
  rintro k s' ⟨S₁, σ₁, ad₁, h, tk', hk, htk', he₁, x₁, m₁⟩
  cases k with
  | zero => exact optE he₁
  | succ k =>
  have go₁ := go.move m₁
  refine whlE he₁ (fun ht h0 => Go.kT (s := up s h tk') am go₁ x₁ ht fun h1 tk1 hn1 x2 go2 m2 => ?_) fun fl1 S2 ht hb hend => Go.kT (s := up s h tk') am go₁ x₁ ht fun h1 tk1 hn1 x2 go2 m2 => ?_
  · rw [if_neg Bool.false_ne_true]
    refine wpAny_execs_nil ?_
    refine J.end' h0 ?_
    exact ⟨_, rfl, _, _, rfl, Nat.le_trans htk' hn1, σ₁, ad₁, x2, m₁.trans m2, .next⟩
  · rw [if_pos rfl]
    refine ((ih k (Nat.lt_of_succ_le hk)).b A fr env sc tp B h₀ body S₁ fl1 S2 hb σ₁ ad₁ (up s h1 tk1) go2 x2 (Nat.zero_le _)).wp fun f h2 tk2 hn2 q => ?_
    obtain ⟨σ2, ad2, y, m, fo⟩ := q
    have mm := (m₁.trans m2).trans m
    have tt := Nat.le_trans htk' (Nat.le_trans hn1 hn2)
    cases fo with
    | next => exact ⟨k, Nat.lt_succ_self _, .mk k S2 σ2 ad2 h2 tk2 (Nat.le_of_succ_le hk) tt hend y mm⟩
    | brk =>
      refine J.end' hend ?_
      exact ⟨_, rfl, _, _, rfl, tt, σ2, ad2, y, mm, .next⟩
    | ret r =>
      refine J.end' hend ?_
      exact ⟨_, rfl, _, _, rfl, tt, σ2, ad2, y, mm, .ret r⟩
theorem ex_ite {n : Nat} (ih : SoundS prog w nm fn FT base N n) {t : X} {a b : Bl} {p : Pos} {fl : Fl} {S' : Sta} (he : exS nm fn FT sc tp (n + 1) (.ite t a b p) S = some (fl, S')) (go : Go A fr base h₀ N env B tp s.heap ad)
    (x : SI prog w nm env sc B s.heap S σ ad) : Ok (model prog w) (A.deeper env) (exec (.If (t.py nm fn) (a.py nm fn) (b.py nm fn) p) env) s (ExP prog w nm tp fr env sc B s.heap ad fl S') := by
  have run : ∀ bl : Bl, exB nm fn FT sc tp n bl S = some (fl, S') → ∀ h1 tk1, s.toks ≤ tk1 → SI prog w nm env sc B h1 S σ ad → Go A fr base h₀ N env B tp h1 ad → Mv tp fr env s.heap ad h1 ad →
      wpAny (model prog w) (A.deeper env) (execs (bl.py nm fn) env) (OkP s (ExP prog w nm tp fr env sc B s.heap ad fl S')) (fun _ _ => False) (up s h1 tk1) := fun bl he h1 tk1 hn1 x1 go1 m1 =>
    (ih.b A fr env sc tp B h₀ bl S fl S' he σ ad (up s h1 tk1) go1 x1 (Nat.zero_le _)).wp fun f h2 tk2 hn2 q => by
      obtain ⟨σ', ad', y, m, fo⟩ := q
      exact fin ⟨σ', ad', y, m1.trans m, fo⟩
  refine J.ite he (fun ht he => wpAny_If (Go.kT am go x ht fun h1 tk1 hn1 x1 go1 m1 => ?_)) fun ht he => wpAny_If (Go.kT am go x ht fun h1 tk1 hn1 x1 go1 m1 => ?_)
  · rw [if_pos rfl]; exact run a he h1 tk1 hn1 x1 go1 m1
  · rw [if_neg Bool.false_ne_true]; exact run b he h1 tk1 hn1 x1 go1 m1
theorem soundS : ∀ n, SoundS prog w nm fn FT base N n := by
  intro n
  induction n using Nat.strongRecOn with
  | ind n ihs =>
  cases n with
  | zero => exact ⟨fun _ _ _ _ _ _ _ _ _ _ _ h => optE h, fun _ _ _ _ _ _ _ _ _ _ _ h => optE h, fun _ _ _ _ _ _ _ _ _ _ _ _ h => optE h⟩
  | succ n =>
  have ih := ihs n (Nat.lt_succ_self _)
  refine ⟨fun A fr env sc tp B h₀ st S fl S' he σ ad s go x tk rest P k => ?_, fun A fr env sc tp B h₀ st S fl S' he σ ad s go x tk => ?_, fun A fr env sc tp B h₀ t body S fl S' he σ ad s go x tk => ?_⟩
  · cases st with
    | asg i pi e p => exact one_then (ex_asg am he go x tk) k
    | own i pi e p => exact one_then (ex_own am he go x tk) k
    | ownL i pi pl ps p => exact one_then (ex_ownL am he go x tk) k
    | unp ts kk pt e p => exact one_then (ex_unp am he go x tk) k
    | aug i pi op e p => exact one_then (ex_aug am he go x tk) k
    | augI i pi kx ps op e p => exact one_then (ex_augI am he go x tk) k
    | setI i pi kx ps e p => exact one_then (ex_setI am he go x tk) k
    | app i pi pa e pc p => exact one_then (ex_app am he go x tk) k
    | appI i pi kx pk pa e pc p => exact one_then (ex_appI am he go x tk) k
    | ite t a b p => exact one_then (ex_ite am ih he go x) k
    | «for» tg src body p => exact one_then (ex_for am ih he go x tk) k
    | whl t body p =>
      refine one_then (wpAny_While (codeAny_mono (ih.w A fr env sc tp B h₀ t body S fl S' he σ ad s go x tk) fun r s' q => ?_)) k
      obtain ⟨f, rfl, h', tk', rfl, hn, q⟩ := q
      exact ⟨_, _, rfl, q⟩
    | ret e p => exact one_then (ex_ret am he go x tk) k
    | brk p =>
      revert k
      refine J.end' he fun k => ?_
      exact one_then (P := ExP prog w nm tp fr env sc B s.heap ad .brk S) (wpAny_Break (fin ⟨σ, ad, x, Mv.refl, .brk⟩)) k
    | tri body h hs p =>
      refine one_then (wpAny_Try_except ((ih.b A fr env sc tp B h₀ body S fl S' he σ ad s go x tk).wp fun f h1 tk1 hn1 q => ?_)) k
      cases f with
      | next => exact wpAny_execs_nil ⟨_, _, rfl, q⟩
      | brk => exact ⟨_, _, rfl, q⟩
      | cont => exact ⟨_, _, rfl, q⟩
      | ret v => exact ⟨_, _, rfl, q⟩
    | frz i =>
      revert k
      refine J.frz he fun sl hi k => ?_
      have ym := freeze (tp := tp) (fr := fr) x hi
      exact k .next s.heap s.toks (Nat.le_refl _) ⟨σ, _, ym.1, ym.2, .next⟩
    | repIf i y k0 q1 q2 q3 q4 q5 q6 k1 q7 z k2 q8 q9 q10 q11 => exact one_then (ex_repIf am he go x tk) k
    | raw st => exact optE he
  · cases st with
    | nil => exact J.end' he (wpAny_execs_nil (fin ⟨σ, ad, x, Mv.refl, .next⟩))
    | cons a r =>
      refine blE he fun fl1 S1 ha hend => ih.s A fr env sc tp B h₀ a S fl1 S1 ha σ ad s go x tk _ _ fun f h1 tk1 hn1 q => ?_
      obtain ⟨σ1, ad1, y, m, fo⟩ := q
      cases fo with
      | next =>
        refine (ih.b A fr env sc tp B h₀ r S1 fl S' hend σ1 ad1 (up s h1 tk1) (go.move m) y (Nat.le_trans tk hn1)).mono fun f h2 q => ?_
        obtain ⟨σ2, ad2, z, m2, fo⟩ := q
        exact ⟨σ2, ad2, z, m.trans m2, fo⟩
      | brk =>
        refine J.end' hend ?_
        exact ⟨σ1, ad1, y, m, .brk⟩
      | ret rr =>
        refine J.end' hend ?_
        exact ⟨σ1, ad1, y, m, .ret rr⟩
  · exact while_ok am ihs he go x tk
end
end Mine
end
section
set_option maxRecDepth 100000
open PySem PySem.W PyProof.Rows PySem.Calls
set_option autoImplicit false
namespace Mine
noncomputable def staOf : List Nat → List D → Sta
  | p :: ps, d :: ds => (staOf ps ds).put p (.fr d)
  | _, _ => fun _ => none
theorem staOf_get : ∀ {ps : List Nat} {ds : List D} {i : Nat} {x : Slot}, ps.Nodup → staOf ps ds i = some x → ∃ (j : Nat) (d : D), ps[j]? = some i ∧ ds[j]? = some d ∧ x = .fr d
  | [], _, _, _, _, h => by simp [staOf] at h
  | _ :: _, [], _, _, _, h => by simp [staOf] at h
  | p :: ps, d :: ds, i, x, hn, h => by
    rw [List.nodup_cons] at hn
    unfold staOf Sta.put at h
    split at h
    · rename_i e; cases h; exact ⟨0, d, by simp [e], rfl, rfl⟩
    · obtain ⟨j, d', a, b, c⟩ := staOf_get hn.2 h
      exact ⟨j + 1, d', by simpa using a, by simpa using b, c⟩
theorem bind_get (kindOf : Str → Option NameKind) : ∀ (binds : List (Str × Value)) (m cm : Str → Option Value), (binds.map (·.1)).Nodup → ∀ x,
    (∀ v, (x, v) ∈ binds → (kindOf x = some .local → bindL kindOf binds m x = some v) ∧ (kindOf x ≠ some .local → bindC kindOf binds cm x = some v)) ∧
    (x ∉ binds.map (·.1) → bindL kindOf binds m x = m x ∧ bindC kindOf binds cm x = cm x)
  | [], m, cm, _, x => ⟨fun v h => (by cases h), fun _ => ⟨rfl, rfl⟩⟩
  | (n, u) :: r, m, cm, hn, x => by
    rw [List.map_cons, List.nodup_cons] at hn
    have ih := bind_get kindOf r (if kindOf n = some .local then fun y => if y = n then some u else m y else m) (if kindOf n = some .local then cm else fun y => if y = n then some u else cm y) hn.2 x
    refine ⟨fun v h => ?_, fun h => ?_⟩
    · rcases List.mem_cons.mp h with e | h
      · cases e
        have := ih.2 hn.1
        unfold bindL bindC
        refine ⟨fun hk => ?_, fun hk => ?_⟩
        · rw [this.1, if_pos hk, if_pos rfl]
        · rw [this.2, if_neg hk, if_pos rfl]
      · exact ih.1 v h
    · rw [List.map_cons, List.mem_cons, not_or] at h
      have := ih.2 h.2
      unfold bindL bindC
      refine ⟨this.1.trans ?_, this.2.trans ?_⟩
      · split
        · exact if_neg h.1
        · rfl
      · split
        · rfl
        · exact if_neg h.1
section
variable {prog : Program} {w : World} {nm fn : Nat → Str} {FT : List FE} {base : Heap} {N : Nat}
structure Fun (prog : Program) (w : World) (nm fn : Nat → Str) (name : Str) (params : Arguments) (body : List Stmt) (sc : Scope) (b : Bl) (ps : List Nat) (pd : List D → Option (List D)) : Prop where
  bodyEq : b.py nm fn = body
  nodup : ps.Nodup
  pnames : (ps.map nm).Nodup
  kind : sc.kind = .function
  names : (sc.names.map (·.1)).Nodup
  free : ∀ x ∈ sc.names, x.2 ≠ .free
  put : ∀ i ∈ ps, putOk sc (nm i) = true
  co : sc.isCoroutine = false
  gen : sc.isGenerator = false
  bind : ∀ (pm code doc : Value) (A : Around) (s : Shared) (W : Addr → Prop) (us : List Value) (ds ds' : List D), A.handled = none → pd ds = some ds' → RL prog w s.heap W us ds → (∀ a, W a → ∃ o, s.heap.get? a = some o) →
    Ok (model prog w) A (bindArgs (docDef name params body sc pm code doc) ⟨us, []⟩) s (fun binds h' => (∀ b o, s.heap.get? b = some o → h'.get? b = some o) ∧ ∃ us', binds = (ps.map nm).zip us' ∧ us'.length = ps.length ∧ RL prog w h' W us' ds')
theorem con_gen {name : Str} {params : Arguments} {body : List Stmt} {sc : Scope} {b : Bl} {ps : List Nat} {pd : List D → Option (List D)} {pm code doc : Value} {fa : Addr} {o : Obj} {fe : FE}
    (F : Fun prog w nm fn name params body sc b ps pd) (ho : base.get? fa = some o) (hod : o.data = .func (docDef name params body sc pm code doc)) (hcd : base.CodeRec code name) (hlim : base.NoLimit) (hN : fe.need = N + 1)
    (hrun : ∀ ds d, fe.g ds = some d → ∃ ds', pd ds = some ds' ∧ ds'.length = ps.length ∧ ∀ (A : Around) (fr : List Env) (env : Env) (B : Addr → Prop) (h₀ : Heap) (s : Shared) (σ : Str → Option Value),
      Go A fr base h₀ N env B (!fe.exact) s.heap (fun _ => []) → SI prog w nm env sc B s.heap (staOf ps ds') σ (fun _ => []) → 0 ≤ s.toks →
      Ok (model prog w) (A.deeper env) (execs body env) s (fun f h' => ∃ S', ExP prog w nm (!fe.exact) fr env sc B s.heap (fun _ => []) (.ret d) S' f h')) : Con prog w base fe fa := by
  intro A fr s cx tk ds d hg W us hfrW hWal rl
  refine gg fun G₀ kk => ?_
  obtain ⟨ds', hpd, hlen, hex⟩ := hrun ds d hg
  refine kk ?_
  have hstay := cx.stay
  refine wpAny_call (codeAny_call_function (by have := cx.dep; show A.depth < recursionLimit; have e : recursionLimit = 1000 := by decide
                                               omega) (hstay _ _ ho) hod F.co F.gen rfl (hcd.keeps hstay) ?_)
  refine (F.bind pm code doc A.in1 s W us ds ds' cx.hd hpd rl hWal).wp fun binds h1 tk1 hn1 q => ?_
  obtain ⟨k1, us', rfl, hus, rl1⟩ := q
  have hkind : ∀ x ∈ (ps.map nm).zip us', sc.names.lookup x.1 = some .local ∨ (sc.names.lookup x.1 = some .cell ∧ ((cellsFrom (h1.objs.size + 1) sc.names []).lookup x.1).isSome = true) := fun x hx => by
    have := List.of_mem_zip hx
    obtain ⟨i, hi, e⟩ := List.mem_map.mp this.1
    have hp := F.put i hi
    unfold putOk at hp
    rw [Bool.or_eq_true, beq_iff_eq, beq_iff_eq, e] at hp
    refine hp.imp id fun hp => ⟨hp, ?_⟩
    obtain ⟨c, hc⟩ := cellsFrom_has _ (h1.objs.size + 1) x.1 (mem_of_lookup hp)
    obtain ⟨u, hu⟩ := lookup_has hc
    rw [hu]; rfl
  refine wpAny_mono (wpAny_toks_of (n := tk1) (Nat.le_refl _) (wpAny_newFunctionEnv_cells (s := (up s h1 tk1)) F.kind hkind fun env he s' x => (show env = newEnv sc h1.objs.size mainGlobals (cellsFrom (h1.objs.size + 1) sc.names []) (name ++ ".<locals>.") (some fa) code none builtinsNs ∧ InCallC (up s h1 tk1) env.locals (bindL env.kindOf ((ps.map nm).zip us') fun _ => none) env.cells (bindC env.kindOf ((ps.map nm).zip us') fun _ => none) s' from ⟨he, x⟩))) (fun env s' q => ?_) fun _ _ q => q.2
  obtain ⟨hn2, he, x⟩ := q
  obtain ⟨h2, tk2, hs'⟩ := x.toInCall.same
  subst hs'
  have k2 := x.toInCall.keep
  dsimp only at k2
  refine ⟨hlim.keeps fun b o e => k2 b o (k1 b o (hstay b o e)), codeAny_func ?_⟩
  have hloc : env.locals = h1.objs.size := by rw [he]; rfl
  have hkd : ∀ y, env.kindOf y = sc.names.lookup y := fun y => by rw [he]; rfl
  have hcells : env.cells = cellsFrom (h1.objs.size + 1) sc.names [] := by rw [he]; rfl
  have hzn : (((ps.map nm).zip us').map (·.1)).Nodup := by
    have e : ((ps.map nm).zip us').map (·.1) = ps.map nm := by
      rw [← List.unzip_fst, List.unzip_zip (by rw [List.length_map, hus])]
    rw [e]; exact F.pnames
  have nofree : ∀ y, env.kindOf y ≠ some .free := fun y q => by
    rw [hkd] at q
    exact F.free _ (mem_of_lookup q) rfl
  have hcell : ∀ y, env.kindOf y = some .cell → ∃ c, env.cells.lookup y = some c := fun y q => by
    rw [hkd] at q
    obtain ⟨c, hc⟩ := cellsFrom_has _ (h1.objs.size + 1) y (mem_of_lookup q)
    rw [hcells]
    exact lookup_has hc
  have fm : Fm env h2 (fun y => if env.kindOf y = some .local then bindL env.kindOf ((ps.map nm).zip us') (fun _ => none) y else bindC env.kindOf ((ps.map nm).zip us') (fun _ => none) y) := by
    refine ⟨⟨_, x.toInCall.ns, fun y hy => (if_pos hy).symm⟩, fun y hy => ?_, fun y z c hy hz h1' h2' => ?_⟩
    · rcases hy with hy | hy
      · obtain ⟨c, hc⟩ := hcell y hy
        refine ⟨c, hc, ?_⟩
        rw [if_neg (by rw [hy]; simp)]
        exact x.cell y c hc
      · exact absurd hy (nofree y)
    · exact name_of_addr x.apart (mem_of_lookup h1') (mem_of_lookup h2')
  have newAll : ∀ a, Fm.all env a → s.heap.get? a = none ∧ ∃ o, h2.get? a = some o := fun a q => by
    refine ⟨?_, fm.alive' q⟩
    rcases q with rfl | ⟨y, hy, hc⟩
    · rw [hloc]
      cases q : s.heap.get? h1.objs.size with
      | none => rfl
      | some o => exact absurd (Heap.lt_size (k1 _ _ q)) (Nat.lt_irrefl _)
    · have := x.above y a (mem_of_lookup hc)
      rw [hloc] at this
      cases q : s.heap.get? a with
      | none => rfl
      | some o => exact absurd (Heap.lt_size (k1 _ _ q)) (Nat.not_lt.mpr (Nat.le_of_lt this))
  have gn : Gn A fr base s.heap N env (fun a => W a ∨ Fm.all env a) := by
    refine ⟨by rw [← hN]; exact cx, by rw [he]; rfl, ⟨by rw [he]; exact F.kind, by rw [he]; rfl, by rw [he]; rfl⟩, (newAll _ (.inl rfl)).1, fun a q => .inr q, fun a q => .inl (hfrW a q)⟩
  have kS : ∀ b o, s.heap.get? b = some o → h2.get? b = some o := fun b o e => k2 b o (k1 b o e)
  have go : Go A fr base s.heap N env (fun a => W a ∨ Fm.all env a) (!fe.exact) h2 (fun _ => []) := ⟨gn, Kp.of kS, (fun i a q => by cases q), fun a q => (newAll a (q.imp id fun ⟨y, _, b, c⟩ => ⟨y, .inl b, c⟩)).1⟩
  have si : SI prog w nm env sc (fun a => W a ∨ Fm.all env a) h2 (staOf ps ds') (fun y => if env.kindOf y = some .local then bindL env.kindOf ((ps.map nm).zip us') (fun _ => none) y else bindC env.kindOf ((ps.map nm).zip us') (fun _ => none) y) (fun _ => []) := by
    refine ⟨by rw [he]; rfl, fm, fun i y hi => ?_, fun _ _ => rfl, (fun i a q => by cases q), (fun i j a q => by cases q), fun _ => .nil, fun a q => ?_⟩
    · obtain ⟨j, d', hj, hd', rfl⟩ := staOf_get F.nodup hi
      obtain ⟨u, hu, ru⟩ := rl1.get hd'
      have hp := F.put i (List.mem_of_getElem? hj)
      have hmem : (nm i, u) ∈ (ps.map nm).zip us' := by
        refine List.mem_of_getElem? (i := j) ?_
        rw [List.getElem?_zip_eq_some]
        exact ⟨by rw [List.getElem?_map, hj]; rfl, hu⟩
      have hb := (bind_get env.kindOf ((ps.map nm).zip us') (fun _ => none) (fun _ => none) hzn (nm i)).1 u hmem
      have hk := putOk_kind (env := env) (sc := sc) (by rw [he]; rfl) hp
      refine ⟨hk.elim .inl fun q => .inr (.inl q), u, ?_, .fr (ru.mono (fun b o _ e => k2 b o e) fun a q => ?_)⟩
      · split
        · rename_i q; exact hb.1 q
        · rename_i q; exact hb.2 q
      · rcases q with (q | q) | ⟨_, q⟩
        · exact .inl q
        · refine .inr ?_
          rcases q with rfl | ⟨y, hy, hc⟩
          · rw [hloc]; exact push_none _
          · have := x.above y a (mem_of_lookup hc)
            rw [hloc] at this
            exact Heap.get?_none_of_le (Nat.le_of_lt this)
        · cases q
    · rcases q with q | q
      · obtain ⟨o, e⟩ := hWal a q; exact ⟨o, kS a o e⟩
      · exact (newAll a q).2
  have run := hex A fr env _ s.heap (up s h2 tk2) _ go si (Nat.le_trans tk (Nat.le_trans hn1 hn2))
  refine run.wp fun f h3 tk3 hn3 q => ?_
  obtain ⟨S', σ', ad', y, m, fo⟩ := q
  cases fo with
  | ret r => exact ⟨_, _, rfl, (go.move m).keep, r.mono (fun _ _ _ e => e) fun a q => .inl (.inl (.inl q))⟩
theorem con_of (am : Am prog w nm fn FT base N) {name : Str} {params : Arguments} {body : List Stmt} {sc : Scope} {b : Bl} {ps : List Nat} {pd : List D → Option (List D)} {pm code doc : Value} {fa : Addr} {o : Obj} {fe : FE}
    (F : Fun prog w nm fn name params body sc b ps pd) (ho : base.get? fa = some o) (hod : o.data = .func (docDef name params body sc pm code doc)) (hcd : base.CodeRec code name) (hlim : base.NoLimit) (hN : fe.need = N + 1)
    (hrun : ∀ ds d, fe.g ds = some d → ∃ n ds' S', pd ds = some ds' ∧ ds'.length = ps.length ∧ exB nm fn FT sc (!fe.exact) n b (staOf ps ds') = some (.ret d, S')) : Con prog w base fe fa := by
  refine con_gen F ho hod hcd hlim hN fun ds d hg => ?_
  refine gg fun G₀ kk => ?_
  obtain ⟨n, ds', S', hpd, hlen, hex⟩ := hrun ds d hg
  refine kk ?_
  refine ⟨ds', hpd, hlen, fun A fr env B h₀ s σ go si tk => ?_⟩
  have run := (soundS am n).b A fr env sc (!fe.exact) B h₀ b (staOf ps ds') (.ret d) S' hex σ _ s go si tk
  rw [F.bodyEq] at run
  exact run.mono fun f h' q => ⟨S', q⟩
end
end Mine
end
section
set_option maxRecDepth 100000
open PySem PySem.W PyProof.Rows PySem.Calls
set_option autoImplicit false
namespace Mine
noncomputable def rawsOf : List Stmt → Bl
  | [] => .nil
  | s :: r => .cons (.raw s) (rawsOf r)
theorem rawsOf_py (nm fn : Nat → Str) : ∀ l : List Stmt, (rawsOf l).py nm fn = l
  | [] => rfl
  | s :: r => by show s :: (rawsOf r).py nm fn = _; rw [rawsOf_py nm fn r]
noncomputable def recAt (p : Program) (f : Str) : DefRec := ((recsOf p).find? fun d => d.name == f).getD ⟨f, ⟨[], [], none, [], [], none, []⟩, [], ⟨.function, [], false, false, []⟩, ⟨0,0,0,0⟩⟩
noncomputable def bodyOf (p : Program) (f : Str) : List Stmt := (recAt p f).body
noncomputable def nilH : ExceptHandler := ⟨none, none, [], ⟨0,0,0,0⟩⟩
noncomputable def triOf : List Stmt → List ExceptHandler
  | [] => []
  | .Try _ hs _ _ _ :: _ => hs
  | _ :: r => triOf r
noncomputable def hdOf (p : Program) (f : Str) : ExceptHandler := (triOf (bodyOf p f)).headD nilH
noncomputable def htOf (p : Program) (f : Str) : List ExceptHandler := (triOf (bodyOf p f)).tail
noncomputable def nmOf (T : List Str) (i : Nat) : Str := match T[i]? with
  | some x => x
  | none => ⟨#[2000000 + i]⟩
theorem nmOf_inj {T : List Str} (hn : T.Nodup) (hc : ∀ x ∈ T, x.cps.toList.headD 0 < 2000000) : ∀ i j, nmOf T i = nmOf T j → i = j := by
  intro i j h
  unfold nmOf at h
  split at h
  · rename_i x hx
    split at h
    · rename_i y hy
      subst h
      have hi : i < T.length := by
        rcases Nat.lt_or_ge i T.length with q | q
        · exact q
        · rw [List.getElem?_eq_none q] at hx; cases hx
      exact (List.getElem?_inj hi hn).mp (hx.trans hy.symm)
    · have := hc x (List.mem_of_getElem? hx)
      rw [h] at this
      simp at this
      omega
  · split at h
    · rename_i y hy
      have := hc y (List.mem_of_getElem? hy)
      rw [← h] at this
      simp at this
      omega
    · injection h with h
      have := congrArg Array.toList h
      simp at this
      exact this
theorem nmOf_ne {T : List Str} {z : Str} (h : ∀ x ∈ T, (x == z) = false) (hz : z.cps.toList.headD 0 < 2000000) (i : Nat) : (nmOf T i == z) = false := by
  unfold nmOf
  split
  · rename_i x hx; exact h x (List.mem_of_getElem? hx)
  · cases q : ((⟨#[2000000 + i]⟩ : Str) == z) with
    | false => rfl
    | true =>
      have := eq_of_beq q
      rw [← this] at hz
      simp at hz
      omega
noncomputable def gOf (nm fn : Nat → Str) (FT : List FE) (sc : Scope) (exact : Bool) (b : Bl) (ps : List Nat) (pd : List D → Option (List D)) : List D → Option D := fun ds =>
  match pd ds with
  | some ds' => if ds'.length = ps.length then match exB nm fn FT sc (!exact) 200 b (staOf ps ds') with
    | some (.ret d, _) => some d
    | _ => none else none
  | none => none
theorem gOf_run {nm fn : Nat → Str} {FT : List FE} {sc : Scope} {exact : Bool} {b : Bl} {ps : List Nat} {pd : List D → Option (List D)} {ds : List D} {d : D} (h : gOf nm fn FT sc exact b ps pd ds = some d) :
    ∃ n ds' S', pd ds = some ds' ∧ ds'.length = ps.length ∧ exB nm fn FT sc (!exact) n b (staOf ps ds') = some (.ret d, S') := by
  unfold gOf at h
  split at h
  · rename_i ds' hp
    split at h
    · rename_i hl
      split at h
      · rename_i d' S' he
        cases h
        exact ⟨200, ds', S', hp, hl, he⟩
      · cases h
    · cases h
  · cases h
structure FD where
  name : Str
  exact : Bool
  sc : Scope
  b : Bl
  ps : List Nat
  pd : List D → Option (List D)
noncomputable def FD.fe (nm fn : Nat → Str) (FT : List FE) (f : FD) : FE := ⟨f.name, f.exact, FT.length + 1, gOf nm fn FT f.sc f.exact f.b f.ps f.pd⟩
noncomputable def HasFn (base : Heap) (mg : Str → Option Value) (d : DefRec) : Prop := ∃ a o pm code doc, mg d.name = some (.ref a) ∧ base.get? a = some o ∧ o.data = .func (docDef d.name d.params d.body d.scope pm code doc) ∧ base.CodeRec code d.name
section
variable {prog : Program} {w : World} {nm fn : Nat → Str} {base : Heap}
structure Glb (nm fn : Nat → Str) (base : Heap) (mg mb : Str → Option Value) : Prop where
  nmd : ∀ i, (nm i == "__debug__") = false ∧ (nm i == "__classdict__") = false
  inj : ∀ i j, nm i = nm j → i = j
  fnd : ∀ f, (fn f == "__debug__") = false
  g : base.Ns mainGlobals mg
  b : base.Ns builtinsNs mb
  bi : ∀ b : Bi, mg b.py = none ∧ mb b.py = some b.val
  isS : mg "issubclass" = none ∧ mb "issubclass" = some (.builtin "issubclass")
  isI : mg "isinstance" = none ∧ mb "isinstance" = some (.builtin "isinstance")
  st : mg "str" = none ∧ mb "str" = some (.type "str")
  by' : mg "bytes" = none ∧ mb "bytes" = some (.type "bytes")
  lim : base.NoLimit
noncomputable def Cons (prog : Program) (w : World) (fn : Nat → Str) (base : Heap) (mg : Str → Option Value) (FT : List FE) : Prop :=
  ∀ (f : Nat) (fe : FE), FT[f]? = some fe → ∃ fa o fd, mg (fn f) = some (.ref fa) ∧ base.get? fa = some o ∧ o.data = .func fd ∧ fe.need ≤ FT.length ∧ Con prog w base fe fa
theorem Cons.am {mg mb : Str → Option Value} {FT : List FE} (c : Cons prog w fn base mg FT) (G : Glb nm fn base mg mb) : Am prog w nm fn FT base FT.length :=
  ⟨G.nmd, G.inj, G.fnd, fun b => ⟨mg, mb, G.g, G.b, G.bi b⟩, ⟨mg, mb, G.g, G.b, G.isS⟩, ⟨mg, mb, G.g, G.b, G.isI⟩, ⟨mg, mb, G.g, G.b, G.st⟩, ⟨mg, mb, G.g, G.b, G.by'⟩, mg, G.g, c⟩
theorem Cons.nil {mg : Str → Option Value} : Cons prog w fn base mg [] := fun f fe h => by simp at h
theorem Cons.put {mg : Str → Option Value} {FT : List FE} {fe : FE} (c : Cons prog w fn base mg FT) (hn : fe.need = FT.length + 1) (h : ∃ fa o fd, mg (fn FT.length) = some (.ref fa) ∧ base.get? fa = some o ∧ o.data = .func fd ∧ Con prog w base fe fa) :
    Cons prog w fn base mg (FT ++ [fe]) := by
  intro f fe' hf
  rw [List.getElem?_append] at hf
  split at hf
  · obtain ⟨fa, o, fd, a, b, c', d, e⟩ := c f fe' hf
    exact ⟨fa, o, fd, a, b, c', by rw [List.length_append]; simp; omega, e⟩
  · rename_i hl
    have : f - FT.length = 0 := by
      rcases Nat.eq_zero_or_pos (f - FT.length) with q | q
      · exact q
      · rw [List.getElem?_eq_none (by simp; omega)] at hf; cases hf
    rw [this] at hf
    have hf : fe = fe' := by simpa using hf
    subst hf
    have : f = FT.length := by omega
    subst this
    obtain ⟨fa, o, fd, a, b, c', e⟩ := h
    exact ⟨fa, o, fd, a, b, c', by rw [List.length_append]; simp; omega, e⟩
theorem Cons.fd {mg mb : Str → Option Value} {FT : List FE} (c : Cons prog w fn base mg FT) (G : Glb nm fn base mg mb) {d : DefRec} (H : HasFn base mg d) (f : FD) (hn : fn FT.length = d.name)
    (F : Fun prog w nm fn d.name d.params d.body f.sc f.b f.ps f.pd) (hs : d.scope = f.sc) : Cons prog w fn base mg (FT ++ [f.fe nm fn FT]) := by
  obtain ⟨a, o, pm, code, doc, h1, h2, h3, h4⟩ := H
  rw [hs] at h3
  exact c.put rfl ⟨a, o, _, by rw [hn]; exact h1, h2, h3, con_of (c.am G) F h2 h3 h4 G.lim rfl fun ds d h => gOf_run h⟩
end
end Mine
end
section
set_option maxRecDepth 100000
open PySem PySem.W PyProof.Rows PySem.Calls
set_option autoImplicit false
namespace Mine
noncomputable def pdN (k : Nat) : List D → Option (List D) := fun ds => if ds.length = k then some ds else none
theorem RL.len {prog : Program} {w : World} {h : Heap} {W : Addr → Prop} : ∀ {us : List Value} {ds : List D}, RL prog w h W us ds → us.length = ds.length
  | _, _, .nil => rfl
  | _, _, .cons _ r => congrArg (· + 1) r.len
theorem bind_plain {prog : Program} {w : World} {nm : Nat → Str} {ps : List Nat} {name : Str} {params : Arguments} {body : List Stmt} {sc : Scope} {pm code doc : Value} (k : Nat) (hk : ps.length = k)
    (h : ∀ us : List Value, us.length = k → bindArgs (docDef name params body sc pm code doc) ⟨us, []⟩ = pure ((ps.map nm).zip us))
    (A : Around) (s : Shared) (W : Addr → Prop) (us : List Value) (ds ds' : List D) (_ : A.handled = none) (hp : pdN k ds = some ds') (rl : RL prog w s.heap W us ds) (_ : ∀ a, W a → ∃ o, s.heap.get? a = some o) :
    Ok (model prog w) A (bindArgs (docDef name params body sc pm code doc) ⟨us, []⟩) s (fun binds h' => (∀ b o, s.heap.get? b = some o → h'.get? b = some o) ∧ ∃ us', binds = (ps.map nm).zip us' ∧ us'.length = ps.length ∧ RL prog w h' W us' ds') := by
  unfold pdN at hp
  split at hp
  · rename_i hl
    cases hp
    have hu : us.length = k := rl.len.trans hl
    rw [h us hu]
    exact Ok.pure ⟨fun _ _ e => e, us, rfl, hu.trans hk.symm, rl⟩
  · cases hp
end Mine
namespace Mine
noncomputable def pdJoin : List D → Option (List D) := fun ds => match ds with
  | [a, b] => some [a, .tup [b]]
  | _ => none
theorem bind_join {prog : Program} {w : World} {nm : Nat → Str} {ps : List Nat} {name : Str} {params : Arguments} {body : List Stmt} {sc : Scope} {pm code doc : Value} {x y : Str} (hk : ps.map nm = [x, y])
    (hb : ∀ v u : Value, bindArgs (docDef name params body sc pm code doc) ⟨[v, u], []⟩ = newTuple [u] >>= fun t => pure [(x, v), (y, t)])
    (A : Around) (s : Shared) (W : Addr → Prop) (us : List Value) (ds ds' : List D) (_ : A.handled = none) (hp : pdJoin ds = some ds') (rl : RL prog w s.heap W us ds) (hW : ∀ a, W a → ∃ o, s.heap.get? a = some o) :
    Ok (model prog w) A (bindArgs (docDef name params body sc pm code doc) ⟨us, []⟩) s (fun binds h' => (∀ b o, s.heap.get? b = some o → h'.get? b = some o) ∧ ∃ us', binds = (ps.map nm).zip us' ∧ us'.length = ps.length ∧ RL prog w h' W us' ds') := by
  have hl : ps.length = 2 := by have := congrArg List.length hk; simpa using this
  unfold pdJoin at hp
  split at hp
  · rename_i d e
    cases hp
    cases rl with
    | cons r1 rl => cases rl with
      | cons r2 rl => cases rl with
        | nil =>
          rename_i v u
          rw [hb]
          refine wpAny_bind (wpAny_newTuple ?_ (by rw [sizeLine_eq]; simp))
          refine Ok.pure (s := { s with heap := s.heap.push (sq "tuple" [u] 0) }) ⟨fun _ _ e => Heap.get?_push_of_some _ e, [v, .ref s.heap.objs.size], ?_, hl.symm, ?_⟩
          · rw [hk]; rfl
          · refine .cons (r1.mono (fun _ _ _ e => Heap.get?_push_of_some _ e) fun _ q => .inl q) (.cons (R_push_tup ?_ (.cons r2 .nil)) .nil)
            intro q
            obtain ⟨o, e⟩ := hW _ q
            exact absurd (Heap.lt_size e) (Nat.lt_irrefl _)
  · cases hp
end Mine
end
section
set_option maxRecDepth 100000
open PySem PySem.W PyProof.Rows PySem.Calls
set_option autoImplicit false
namespace Mine
noncomputable def rising : List Str → Bool
  | a :: b :: r => ltS a b && rising (b :: r)
  | _ => true
noncomputable def lessS (xs ys : List Str) : List Str := xs.filter fun x => !ys.contains x
noncomputable def sldG : List D → Option D
  | [.lst a, .lst b] => match strsOf a, strsOf b with
    | some xs, some ys => if rising xs && rising ys && decide (xs.length ≤ 100 ∧ ys.length ≤ 100) then some (.tup [.lst ((lessS xs ys).map .str), .lst ((lessS ys xs).map .str)]) else none
    | _, _ => none
  | _ => none
noncomputable def sldFE : FE := ⟨Str.ofString "sorted_list_difference", false, 6, sldG⟩
end Mine
end
section
set_option maxRecDepth 100000
open PySem PySem.W PyProof.Rows PySem.Calls
set_option autoImplicit false
namespace Mine
structure XN (h h' : Heap) (e : Addr) (c : Value) : Prop where
  keeps : ∀ b o, h.get? b = some o → h'.get? b = some o
  new : h.get? e = none
  there : ∃ ob t, h'.get? e = some ob ∧ ob.cls = .type "IndexError" ∧ ob.data = .fields #[t, .none, c, .none, .bool false, .none]
theorem entry_unchain : entryFor table "proto.unchain" = some Builtin.«proto.unchain» := entryFor_of_fast (by kernel_rfl)
section
variable {prog : Program} {w : World} {A : Around} {E : Value → Shared → Prop} {s : Shared}
theorem XN.of {h h' : Heap} {e : Addr} (x : Heap.NewExc h h' e "IndexError") : XN h h' e .none := ⟨x.keeps, x.new, let ⟨ob, t, a, b, c⟩ := x.there; ⟨ob, t, a, b, c⟩⟩
noncomputable def noCtx (h : Heap) (hd : Option Value) : Prop := match hd with
  | none => True
  | some v => ∃ a o vs, v = .ref a ∧ h.get? a = some o ∧ o.data = .fields vs ∧ vs[2]? = some .none
noncomputable def ctxOf (hd : Option Value) : Value := hd.getD .none
theorem raiseNew_ok {α : Type} {Q : α → Shared → Prop} {e : Addr} {o : Obj} {t : Value} {h₀ : Heap} (hc : noCtx h₀ A.handled) (hk : ∀ b o, h₀.get? b = some o → s.heap.get? b = some o) (hn : h₀.get? e = none) (he : s.heap.get? e = some o) (hcl : o.cls = .type "IndexError") (hdt : o.data = .fields #[t, .none, .none, .none, .bool false, .none])
    (h : ∀ h' tk, XN h₀ h' e (ctxOf A.handled) → E (.ref e) (up s h' tk)) : wpAny (model prog w) A (raiseNew (.ref e) : Sem α) Q E s := by
  unfold raiseNew
  refine wpAny_bind (wpAny_handled ?_)
  cases hh : A.handled with
  | none =>
    rw [hh] at h
    first
      | refine wpAny_throw ?_
      | refine wpAny_bind (wpAny_pure (wpAny_throw ?_))
    exact h s.heap s.toks ⟨hk, hn, o, t, he, hcl, hdt⟩
  | some v =>
    rw [hh] at h hc
    obtain ⟨a, o', vs, rfl, ha, hda, h2⟩ := hc
    have hae : a ≠ e := by rintro rfl; rw [hn] at ha; cases ha
    show wpAny _ A (if (Value.ref a != Value.ref e) = true then _ else _) Q E s
    rw [if_pos (by simpa using hae)]
    refine wpAny_bind (wpAny_holding (wpAny_runValue (codeAny_builtin entry_unchain ?_)))
    show wpAny _ _ (field (.ref a) 2 >>= _) _ _ s
    refine wpAny_bind (wpAny_field (hk _ _ ha) hda h2 ?_)
    rw [if_pos (by rfl)]
    refine wpAny_pure ?_
    show wpAny _ A (setField (.ref e) 2 (.ref a) >>= _) Q E s
    refine wpAny_bind (wpAny_setField he hdt (by show 2 < 6; decide) (wpAny_throw ?_))
    refine h _ s.toks ⟨fun b o' hb => ?_, hn, _, t, Heap.get?_update_self _ he (Obj.isFreed_of_fields (Obj.data_mapFields hdt _)), by rw [Obj.cls_mapFields]; exact hcl, by rw [Obj.data_mapFields hdt]; simp [ctxOf]⟩
    exact (Heap.get?_update_other _ _ (by rintro rfl; rw [hn] at hb; cases hb)).trans (hk b o' hb)
theorem raiseIdx_made {α : Type} {Q : α → Shared → Prop} {msg : String} (hc : noCtx s.heap A.handled) (h : ∀ h' tk e, XN s.heap h' e (ctxOf A.handled) → E (.ref e) (up s h' tk)) (hm : (msg : Str).length ≤ sizeLine := by size_fits) :
    wpAny (model prog w) A (raiseErrorMade "IndexError" msg : Sem α) Q E s := by
  unfold raiseErrorMade
  refine wpAny_bind (wpAny_mkStr (wpAny_bind ?_) hm)
  unfold newExc newTuple
  refine wpAny_bind (wpAny_newObj_type ?_)
  refine wpAny_bind (m := firstArgMember _ _) (wpAny_of_eq (a := Value.none) (by simp only [firstArgMember, plainExc_IndexError.first]; rfl) ?_)
  rw [plainExc_IndexError.own]
  refine wpAny_newObj_type ?_
  exact raiseNew_ok (h₀ := s.heap) (t := .ref s.heap.objs.size) hc (fun b o hb => Heap.get?_push_of_some _ (Heap.get?_push_of_some _ hb)) (Heap.get?_none_of_le (by simp)) (Heap.get?_push_size _ rfl) rfl (by simp) fun h' tk x => h h' tk _ x
theorem raiseIdx_words {α : Type} {Q : α → Shared → Prop} {msg : String} (hc : noCtx s.heap A.handled) (h : ∀ h' tk e, XN s.heap h' e (ctxOf A.handled) → E (.ref e) (up s h' tk)) :
    wpAny (model prog w) A (raiseErrorWords "IndexError" msg : Sem α) Q E s := by
  unfold raiseErrorWords
  refine wpAny_bind (wpAny_mkText (wpAny_bind ?_))
  unfold newExc newTuple
  refine wpAny_bind (wpAny_newObj_type ?_)
  refine wpAny_bind (m := firstArgMember _ _) (wpAny_of_eq (a := Value.none) (by simp only [firstArgMember, plainExc_IndexError.first]; rfl) ?_)
  rw [plainExc_IndexError.own]
  refine wpAny_newObj_type ?_
  exact raiseNew_ok (h₀ := s.heap) (t := .ref s.heap.objs.size) hc (fun b o hb => Heap.get?_push_of_some _ (Heap.get?_push_of_some _ hb)) (Heap.get?_none_of_le (by simp)) (Heap.get?_push_size _ rfl) rfl (by simp) fun h' tk x => h h' tk _ x
theorem listItem_out {l : Addr} {items : Array Value} {k : Int} {t : Tok} {Q : Value → Shared → Prop} (hc : noCtx s.heap A.handled) (hl : s.heap.IsList l items) (hout : (items.size : Int) ≤ k) (hhi : k < 2 ^ 63)
    (h : ∀ h' tk e, XN s.heap h' e (ctxOf A.handled) → E (.ref e) (up s h' tk)) : wpAny (model prog w) A (getItem (.ref l) (.int k t)) Q E s := by
  obtain ⟨o, ho, hcl, ne, hd⟩ := id hl
  unfold getItem
  refine wpAny_holding ?_
  refine wpAny_bind (wpAny_sequenceKey hl.typeIs (by decide) ?_)
  refine wpAny_bind (wpAny_callSpecial?_slot (name := Str.ofString "__getitem__") hl.typeIs slot_list_getitem (wpAny_call_entry slot_list_getitem hl.typeIs entry_list_getitem ?_ (args_list_getitem _ _)))
  show wpAny _ _ (Builtin.List.listSubscript? (.int k t) >>= _) _ _ s
  refine wpAny_bind (wpAny_listSubscript_int (fitsIndex_both (by omega) hhi) ?_)
  clear hhi
  cases k with
  | negSucc j => omega
  | ofNat j =>
    have hx : items[j]? = none := Array.getElem?_eq_none (by have : (items.size : Int) ≤ (j : Int) := hout; omega)
    show wpAny _ _ ((seqItemAt l j >>= fun r => pure (r.map (j, ·))) >>= _) _ _ s
    refine wpAny_bind (wpAny_bind (wpAny_seqItemAt ho hd (wpAny_pure ?_)))
    rw [hx]
    have hc' : noCtx s.heap A.in1.handled := hc
    have h' : ∀ h' tk e, XN s.heap h' e (ctxOf A.in1.handled) → E (.ref e) (up s h' tk) := h
    first
      | exact wpAny_bind (wpAny_rule (raiseIdx_made hc' h'))
      | exact wpAny_bind (wpAny_rule (raiseIdx_words hc' h'))
      | exact wpAny_bind (wpAny_rule (wpAny_bind (raiseIdx_made hc' h')))
      | exact wpAny_bind (wpAny_rule (wpAny_bind (raiseIdx_words hc' h')))
      | exact wpAny_bind (wpAny_bind (wpAny_rule (raiseIdx_made hc' h')))
      | exact wpAny_rule (raiseIdx_made hc' h')
      | exact wpAny_rule (raiseIdx_words hc' h')
end
end Mine
end
section
set_option maxRecDepth 100000
open PySem PySem.W PyProof.Rows PySem.Calls
set_option autoImplicit false
namespace Mine
inductive Tr (P : Addr → Prop) (base h : Heap) (e : Addr) (c fl : Value) : Prop
  | mk (oe : Obj) (vs : Array Value) (T : Addr) (oT : Obj) (ts : Array Value) (h1 : P T) (h2 : h.get? e = some oe) (h3 : oe.cls = .type "IndexError") (h4 : oe.data = .fields vs) (h5 : vs[1]? = some (.ref T)) (h6 : vs[2]? = some c) (h7 : base.get? T = none) (h8 : T ≠ e) (h9 : h.get? T = some oT) (h10 : oT.data = .fields ts) (h11 : ts[3]? = some fl) : Tr P base h e c fl
theorem Tr.imp {P P' : Addr → Prop} {base h : Heap} {e : Addr} {c fl : Value} (x : Tr P base h e c fl) (k : ∀ T, P T → P' T) : Tr P' base h e c fl :=
  let ⟨oe, vs, T, oT, ts, h1, h2, h3, h4, h5, h6, h7, h8, h9, h10, h11⟩ := x; ⟨oe, vs, T, oT, ts, k T h1, h2, h3, h4, h5, h6, h7, h8, h9, h10, h11⟩
inductive Fs (h : Heap) (e : Addr) (c : Value) : Prop
  | mk (oe : Obj) (vs : Array Value) (h2 : h.get? e = some oe) (h3 : oe.cls = .type "IndexError") (h4 : oe.data = .fields vs) (h5 : vs[1]? = some .none) (h6 : vs[2]? = some c) : Fs h e c
structure Kx (base : Heap) (l : List Env) (h h' : Heap) : Prop where
  stay : base.StaysIn h'
  ff : h'.FunFrames base l
  up : h.UpToSlots h'
  al : ∀ a o, h.get? a = some o → ∃ o', h'.get? a = some o'
section
variable {M : Model} {A : Around} {E : Value → Shared → Prop} {s : Shared} {base : Heap} {env : Env} {outer : List Env} {L e : Addr} {c : Value}
theorem note_first {Q : Unit → Shared → Prop} (hfr : A.frames = some (env :: outer)) (hl : s.heap.FunFrames base (env :: outer)) (hf : env.frame = some L) (hkb : base.StaysIn s.heap) (hen : base.get? e = none) (hx : Fs s.heap e c)
    (h : ∀ h', Kx base (env :: outer) s.heap h' → Tr (fun T => s.heap.get? T = none ∧ ∃ o, h'.get? T = some o) base h' e c (rawInt L) → Q () { s with heap := h' }) : wpAny M A (noteFrame (.ref e) env) Q E s := by
  obtain ⟨oe, vs, he, hcl, hd, h1, h2⟩ := hx
  have hsz : 1 < vs.size := (Array.getElem?_eq_some_iff.mp h1).1
  have hene : e ∉ (env :: outer).filterMap (·.frame) := fun hm => by
    obtain ⟨_, o, ho, hnf⟩ := hl.mem hm
    rw [he] at ho; cases ho; exact hnf vs hd
  unfold noteFrame
  simp only [hf]
  refine wpAny_bind (wpAny_field he hd h1 ?_)
  rw [if_neg (by decide)]
  refine wpAny_bind (wpAny_frameOf_fun hfr hl hf fun h₁ hs₁ => ?_)
  refine wpAny_bind (wpAny_entryPlaceOf fun pl hpl => ?_)
  unfold EntryCells.newEntry newFields
  refine wpAny_bind (wpAny_newObj_type ?_ (hpl.sizeOk5 _ _ _ _ _))
  have he₁ : h₁.get? e = some oe := (hs₁.2.1 e hene).trans he
  refine wpAny_setField (Heap.get?_push_of_some _ he₁) hd hsz (h _ ⟨fun b o hb => ?_, hl.of_keeps fun b o hb hnf => ?_, fun b o hb hnf => ?_, fun b o hb => ?_⟩ ?_)
  · have hb1 : h₁.get? b = some o := (hs₁.2.1 b fun hm => by rw [(hl.mem hm).1] at hb; cases hb).trans (hkb b o hb)
    rw [Heap.get?_update_other _ _ (by rintro rfl; rw [hen] at hb; cases hb)]
    exact Heap.get?_push_of_some _ hb1
  · obtain ⟨sl, hs⟩ := hs₁.2.2 b o hb
    refine ⟨{ o with slots := sl }, ?_, rfl⟩
    rw [Heap.get?_update_other _ _ (by rintro rfl; rw [he] at hb; cases hb; exact hnf vs hd)]
    exact Heap.get?_push_of_some _ hs
  · obtain ⟨sl, hs⟩ := hs₁.2.2 b o hb
    refine ⟨sl, ?_⟩
    rw [Heap.get?_update_other _ _ (by rintro rfl; rw [he] at hb; cases hb; exact hnf vs hd)]
    exact Heap.get?_push_of_some _ hs
  · obtain ⟨sl, hs⟩ := hs₁.2.2 b o hb
    by_cases q : b = e
    · subst q; exact ⟨_, Heap.get?_update_self _ (Heap.get?_push_of_some _ he₁) (Obj.isFreed_of_fields (Obj.data_mapFields hd _))⟩
    · exact ⟨_, (Heap.get?_update_other _ _ (Ne.symm q)).trans (Heap.get?_push_of_some _ hs)⟩
  · have hTe : h₁.objs.size ≠ e := Nat.ne_of_gt (Heap.lt_size he₁)
    have kb₁ : base.StaysIn h₁ := fun b o hbo => (hs₁.2.1 b fun hm => by rw [(hl.mem hm).1] at hbo; cases hbo).trans (hkb b o hbo)
    have hTo : ∀ f : Obj → Obj, ((h₁.push { cls := .type "traceback", dict := none, data := .fields ([Value.none, .ref L, .none, rawInt L, .none] ++ (if pl.isEmpty then List.replicate 6 Value.none else pl)).toArray }).update e f).get? h₁.objs.size = some _ := fun f => (Heap.get?_update_other _ _ (Ne.symm hTe)).trans (Heap.get?_push_size h₁ rfl)
    have hTn : s.heap.get? h₁.objs.size = none := by
      cases z : s.heap.get? h₁.objs.size with
      | none => rfl
      | some o => obtain ⟨sl, q⟩ := hs₁.2.2 _ o z; exact absurd (Heap.lt_size q) (Nat.lt_irrefl _)
    refine ⟨_, _, h₁.objs.size, _, _, ⟨hTn, _, hTo _⟩, Heap.get?_update_self _ (Heap.get?_push_of_some _ he₁) (Obj.isFreed_of_fields (Obj.data_mapFields hd _)), (Obj.cls_mapFields _ _).trans hcl, Obj.data_mapFields hd _, by simp [hsz], ?_, kb₁.fresh, hTe, (Heap.get?_update_other _ _ (Ne.symm hTe)).trans (Heap.get?_push_size h₁ rfl), rfl, by simp⟩
    rw [Array.getElem?_setIfInBounds_ne (by decide)]; exact h2
theorem note_again {Q : Unit → Shared → Prop} (hf : env.frame = some L) {P : Addr → Prop} (hx : Tr P base s.heap e c (rawInt L)) (h : Q () s) : wpAny M A (noteFrame (.ref e) env) Q E s := by
  obtain ⟨oe, vs, T, oT, ts, hP, he, hcl, hd, h1, h2, hnT, hTe, hT, hdT, h3⟩ := hx
  unfold noteFrame
  simp only [hf]
  refine wpAny_bind (wpAny_field he hd h1 ?_)
  rw [if_pos (show (Value.ref T != Value.none) = true from by simp)]
  refine wpAny_bind (wpAny_field hT hdT h3 ?_)
  rw [if_pos (show (rawInt L == rawInt L) = true from by simp)]
  exact wpAny_pure h
theorem flight_set {Q : Unit → Shared → Prop} {l : List Env} {fl : Value} (f : Option Addr) (hl : s.heap.FunFrames base l) (hkb : base.StaysIn s.heap) {P : Addr → Prop} (hx : Tr P base s.heap e c fl)
    (h : ∀ h', Kx base l s.heap h' → Tr P base h' e c (f.elim .none fun f => rawInt f) → (∀ b, ¬ P b → h'.get? b = s.heap.get? b) → Q () { s with heap := h' }) : wpAny M A (setFlight (.ref e) f) Q E s := by
  obtain ⟨oe, vs, T, oT, ts, hP, he, hcl, hd, h1, h2, hnT, hTe, hT, hdT, h3⟩ := hx
  have hsz3 : 3 < ts.size := (Array.getElem?_eq_some_iff.mp h3).1
  unfold setFlight
  refine wpAny_bind (wpAny_field he hd h1 ?_)
  rw [if_pos (show (Value.ref T != Value.none) = true from by simp)]
  have other : ∀ b o, s.heap.get? b = some o → (∀ vs, o.data ≠ .fields vs) → (s.heap.update T (Obj.mapFields (·.setIfInBounds 3 (f.elim .none fun f => rawInt f)))).get? b = some o := fun b o hb hn => by
    rw [Heap.get?_update_other _ _ (by rintro rfl; rw [hT] at hb; cases hb; exact hn ts hdT)]; exact hb
  refine wpAny_setField hT hdT hsz3 (h _ ⟨fun b o hb => ?_, hl.of_keeps fun b o hb hn => ⟨o, other b o hb hn, rfl⟩, fun b o hb hn => ⟨o.slots, other b o hb hn⟩, fun b o hb => ?_⟩ ?_ fun b hb => ?_)
  · rw [Heap.get?_update_other _ _ (by rintro rfl; rw [hnT] at hb; cases hb)]
    exact hkb b o hb
  · by_cases q : b = T
    · subst q; exact ⟨_, Heap.get?_update_self _ hT (Obj.isFreed_of_fields (Obj.data_mapFields hdT _))⟩
    · exact ⟨o, (Heap.get?_update_other _ _ (Ne.symm q)).trans hb⟩
  · refine ⟨oe, vs, T, _, _, hP, (Heap.get?_update_other _ _ hTe).trans he, hcl, hd, h1, h2, hnT, hTe, Heap.get?_update_self _ hT (Obj.isFreed_of_fields (Obj.data_mapFields hdT _)), Obj.data_mapFields hdT _, by simp [hsz3]⟩
  · exact Heap.get?_update_other _ _ (by rintro rfl; exact hb hP)
end
end Mine
end
section
set_option maxRecDepth 100000
open PySem PySem.W PyProof.Rows PySem.Calls
set_option autoImplicit false
namespace Mine
section
variable {prog : Program} {w : World} {nm : Nat → Str} {base : Heap} {N : Nat} {A : Around} {fr : List Env} {env : Env} {sc : Scope} {B : Addr → Prop} {h₀ : Heap} {S : Sta} {σ : Str → Option Value} {ad : Nat → List Addr} {s : Shared}
theorem Gn.grow {B' : Addr → Prop} (gn : Gn A fr base h₀ N env B) (hB : ∀ a, B a → B' a) : Gn A fr base h₀ N env B' := ⟨gn.cx, gn.frame, gn.g, gn.lnew, fun a q => hB a (gn.fmB a q), fun a q => hB a (gn.frB a q)⟩
theorem SI.shrink {B' : Addr → Prop} {h : Heap} (x : SI prog w nm env sc B' h S σ ad) (hB : ∀ a, B a → B' a) : SI prog w nm env sc B h S σ ad :=
  ⟨x.sc, x.fm, fun i y hi => let ⟨a, u, b, c⟩ := x.sl i y hi; ⟨a, u, b, c.keep (fun _ _ _ e => e) (fun _ _ _ e => e) fun a q => .inl (q.imp (hB a) id)⟩, x.no, fun i a q z => x.nb i a q (hB a z), x.dj, x.nd, fun a q => x.al a (hB a q)⟩
theorem SI.stepX {h h' : Heap} (gn : Gn A fr base h₀ N env B) (x : SI prog w nm env sc B h S σ ad) (k : ∀ b o, ¬ B b → h.get? b = some o → h'.get? b = some o) (up : h.UpToSlots h') (al : ∀ a o, h.get? a = some o → ∃ o', h'.get? a = some o') : SI prog w nm env sc B h' S σ ad := by
  refine ⟨x.sc, ⟨?_, fun y hy => ?_, x.fm.inj⟩, fun i y hi => ?_, x.no, x.nb, x.dj, x.nd, fun a q => let ⟨o, e⟩ := x.al a q; al a o e⟩
  · obtain ⟨m, a, b⟩ := x.fm.ns
    exact ⟨m, up.ns a, b⟩
  · obtain ⟨c, a, o, ho, hd⟩ := x.fm.cell y hy
    obtain ⟨sl, e⟩ := up c o ho fun vs q => by rw [hd] at q; cases q
    exact ⟨c, a, _, e, hd⟩
  · obtain ⟨a, u, b, c⟩ := x.sl i y hi
    exact ⟨a, u, b, c.keep (fun b hb o e => k b o (x.nb i b hb) e) (fun b o hb e => k b o (fun q => hb (.inl q)) e) fun a q => .inl q⟩
inductive Iv (prog : Program) (w : World) (nm : Nat → Str) (fr : List Env) (env : Env) (sc : Scope) (B : Addr → Prop) (hs h : Heap) (S : Sta) : Prop
  | mk (B' : Addr → Prop) (σ : Str → Option Value) (ad : Nat → List Addr) (hB : ∀ a, B a → B' a) (hN : ∀ a, B' a → B a ∨ hs.get? a = none) (x : SI prog w nm env sc B' h S σ ad) (m : Mv true fr env hs (fun _ => []) h ad) : Iv prog w nm fr env sc B hs h S
theorem Mv.thenX {hs h h' : Heap} {ad₀ ad : Nat → List Addr} (m : Mv true fr env hs ad₀ h ad) (k : ∀ b o o', hs.get? b = some o → ¬ SS fr true b → ¬ Fm.at env (fun _ => True) b → h.get? b = some o' → h'.get? b = some o')
    (up : ∀ b o o', hs.get? b = some o → ¬ Fm.at env (fun _ => True) b → h.get? b = some o' → ∃ sl, h'.get? b = some { o' with slots := sl }) (al : ∀ a o, h.get? a = some o → ∃ o', h'.get? a = some o') : Mv true fr env hs ad₀ h' ad :=
  ⟨fun b o h1 h2 h3 e => k b o o e h2 h1 (m.kept b o h1 h2 h3 e), fun b o h1 h3 e => let ⟨sl, e'⟩ := m.slot b o h1 h3 e; let ⟨sl', e''⟩ := up b o _ e h1 e'; ⟨sl', e''⟩, fun b o h3 e => let ⟨o', e'⟩ := m.live b o h3 e; al b o' e', m.new⟩
variable {hs : Heap}
theorem Iv.rd {A' : Around} {i : Nat} {d : D} {p : Pos} (gn : Gn A fr base h₀ N env B) (x : Iv prog w nm fr env sc B hs s.heap S) (nmd : ∀ i, (nm i == "__debug__") = false ∧ (nm i == "__classdict__") = false) (hi : S i = some (.fr d)) :
    Ok (model prog w) A' (eval (.Name (nm i) p) env) s (fun v h' => h' = s.heap ∧ ∃ W, R prog w s.heap W v d) := by
  obtain ⟨B', σ, ad, hB, _, x, _⟩ := x
  obtain ⟨hk, u, hu, c⟩ := x.sl i _ hi
  refine wpAny_Name (load_slot (P := fun v h' => h' = s.heap ∧ ∃ W, R prog w s.heap W v d) gn.g x (nmd i) hi hu ⟨rfl, ?_⟩) (nmd i).1
  generalize ad i = as at c
  cases c with | fr r => exact ⟨_, r⟩
theorem Iv.rdK {A' : Around} {i : Nat} {d : D} {p : Pos} (gn : Gn A fr base h₀ N env B) (x : Iv prog w nm fr env sc B hs s.heap S) (nmd : ∀ i, (nm i == "__debug__") = false ∧ (nm i == "__classdict__") = false) (hi : S i = some (.fr d)) {Q E : Value → Shared → Prop}
    (c : ∀ u W tk, s.toks ≤ tk → R prog w s.heap W u d → Q u (up s s.heap tk)) : wpAny (model prog w) A' (eval (.Name (nm i) p) env) Q E s :=
  (x.rd gn nmd hi).wp fun u h' tk hn q => by rw [q.1]; exact q.2.elim fun W r => c u W tk hn r
theorem Iv.st {A' : Around} {i : Nat} {d : D} {u : Value} {W : Addr → Prop} (gn : Gn A fr base h₀ N env B) (x : Iv prog w nm fr env sc B hs s.heap S) (inj : ∀ i j, nm i = nm j → i = j) (hp : putOk sc (nm i) = true) (hd : d.atom = true) (r : R prog w s.heap W u d) :
    Ok (model prog w) A' (storeName env (nm i) u) s (fun _ h' => Iv prog w nm fr env sc B hs h' (S.put i (.fr d))) := by
  obtain ⟨B', σ, ad, hB, hN, x, m⟩ := x
  exact store_fr (tp := true) (gn.grow hB) x inj hp (r.of_atom hd) fun σ' h' tk _ y mm _ => fin ⟨B', _, _, hB, hN, y, m.trans mm⟩
end
end Mine
end
section
set_option maxRecDepth 100000
open PySem PySem.W PyProof.Rows PySem.Calls
set_option autoImplicit false
namespace Mine
section
variable {prog : Program} {w : World} {nm : Nat → Str} {base : Heap} {N : Nat} {A : Around} {fr : List Env} {env : Env} {sc : Scope} {B : Addr → Prop} {h₀ hs : Heap} {S : Sta} {s : Shared} {E : Value → Shared → Prop}
inductive Ix (prog : Program) (w : World) (nm : Nat → Str) (fr : List Env) (env : Env) (sc : Scope) (B : Addr → Prop) (hs h : Heap) (S : Sta) (e : Addr) (c fl : Value) : Prop
  | mk (B' : Addr → Prop) (σ : Str → Option Value) (ad : Nat → List Addr) (b' : Heap) (hB : ∀ a, B a → B' a) (hN : ∀ a, B' a → B a ∨ hs.get? a = none) (x : SI prog w nm env sc B' h S σ ad) (m : Mv true fr env hs (fun _ => []) h ad)
    (stay : Heap.StaysIn b' h) (ff : h.FunFrames b' (env :: fr)) (en : b'.get? e = none) (tr : Tr (fun T => B' T ∧ hs.get? T = none) b' h e c fl) : Ix prog w nm fr env sc B hs h S e c fl
theorem Ix.iv {h : Heap} {e : Addr} {c fl : Value} (x : Ix prog w nm fr env sc B hs h S e c fl) : Iv prog w nm fr env sc B hs h S := by
  obtain ⟨B', σ, ad, _, a, b, y, m, _⟩ := x
  exact ⟨B', σ, ad, a, b, y, m⟩
theorem Ix.noCtx {h : Heap} {e : Addr} {fl : Value} (x : Ix prog w nm fr env sc B hs h S e .none fl) : noCtx h (some (.ref e)) := by
  obtain ⟨B', σ, ad, _, a, b, y, m, _, _, _, ⟨oe, vs, _, _, _, _, h1, _, h2, _, h3, _⟩⟩ := x
  exact ⟨_, _, _, rfl, h1, h2, h3⟩
theorem ff_rebase {h h' b b' : Heap} : ∀ {l : List Env}, h.FunFrames b l → (∀ L ∈ l.filterMap (·.frame), b'.get? L = none) → (∀ a o, h.get? a = some o → h'.get? a = some o) → h'.FunFrames b' l
  | [], _, _, _ => trivial
  | env :: rest, hf, hn, hk => by
    obtain ⟨h1, ⟨L, o, h2, h3, h4, h5⟩, h6⟩ := hf
    refine ⟨h1, ⟨L, o, h2, hn L (by rw [List.filterMap_cons, h2]; exact List.mem_cons_self), hk _ _ h4, h5⟩, ff_rebase h6 (fun a ha => hn a ?_) hk⟩
    rw [List.filterMap_cons, h2]
    exact List.mem_cons_of_mem _ ha
theorem Iv.note {A' : Around} {e : Addr} {c : Value} {h1 : Heap} {Q : Unit → Shared → Prop} {tk : Nat} (gn : Gn A fr base h₀ N env B) (hfr : A'.frames = some (env :: fr)) (hff : s.heap.FunFrames base (env :: fr)) (hmB : ∀ a, frA (env :: fr) a → B a) (x : Iv prog w nm fr env sc B hs s.heap S) (xn : XN s.heap h1 e c)
    (k : ∀ h', Ix prog w nm fr env sc B hs h' S e c (rawInt env.locals) → Q () (up s h' tk)) : wpAny (model prog w) A' (noteFrame (.ref e) env) Q E (up s h1 tk) := by
  obtain ⟨B', σ, ad, hB, hN, y, m⟩ := x
  obtain ⟨ob, t, he, hcl, hd⟩ := xn.there
  have stay1 : Heap.StaysIn (TI.gone s.heap ((env :: fr).filterMap (·.frame))) h1 := fun b o q => xn.keeps b o (TI.gone_some q).2
  have en : (TI.gone s.heap ((env :: fr).filterMap (·.frame))).get? e = none := by
    cases q : (TI.gone s.heap ((env :: fr).filterMap (·.frame))).get? e with
    | none => rfl
    | some o => have := (TI.gone_some q).2; rw [xn.new] at this; cases this
  have ff1 : h1.FunFrames (TI.gone s.heap ((env :: fr).filterMap (·.frame))) (env :: fr) := ff_rebase hff (fun L hL => TI.gone_none hL) xn.keeps
  refine note_first (s := (up s h1 tk)) hfr ff1 gn.frame stay1 en ⟨ob, _, he, hcl, hd, rfl, rfl⟩ fun h' kx tr => k h' ?_
  have old : ∀ b o, s.heap.get? b = some o → ¬ B' b → h'.get? b = some o := fun b o q hb => by
    refine kx.stay b o ((TI.gone_get fun hm => hb (hB b (hmB b hm))).trans q)
  have upto : s.heap.UpToSlots h' := (Heap.UpToSlots.of_keeps xn.keeps).trans kx.up
  have alive : ∀ a o, s.heap.get? a = some o → ∃ o', h'.get? a = some o' := fun a o q => kx.al a o (xn.keeps a o q)
  have gone0 : ∀ a, s.heap.get? a = none → hs.get? a = none := fun a q => by
    cases z : hs.get? a with
    | none => rfl
    | some o =>
      obtain ⟨o', z'⟩ := m.live a o (fun i => by simp) z
      rw [q] at z'; cases z'
  refine ⟨fun a => B' a ∨ (s.heap.get? a = none ∧ ∃ o, h'.get? a = some o), σ, ad, _, fun a q => .inl (hB a q), fun a q => ?_, ?_, ?_, kx.stay, kx.ff, en, ?_⟩
  · rcases q with q | q
    · exact hN a q
    · exact .inr (gone0 a q.1)
  · have z := y.stepX (gn.grow hB) (fun b o hb q => old b o q hb) upto alive
    refine ⟨z.sc, z.fm, fun i yy hi => ?_, z.no, fun i a ha hb => ?_, z.dj, z.nd, fun a q => ?_⟩
    · obtain ⟨a1, u, b1, cc⟩ := y.sl i yy hi
      refine ⟨a1, u, b1, cc.keep (fun b hb o q => old b o q (y.nb i b hb)) (fun b o hb q => old b o q fun z => hb (.inl z)) fun a q => ?_⟩
      rcases q with (q | q) | q
      · exact .inl (.inl q)
      · exact .inr q.1
      · exact .inl (.inr q)
    · rcases hb with hb | hb
      · exact y.nb i a ha hb
      · cases hs' : S i with
        | none => rw [y.no i hs'] at ha; cases ha
        | some sl =>
          obtain ⟨_, u, _, cc⟩ := y.sl i sl hs'
          obtain ⟨o, q⟩ := cc.alive a ha
          rw [hb.1] at q; cases q
    · rcases q with q | q
      · exact z.al a q
      · exact q.2
  · refine m.thenX (fun b o o' q1 q2 q3 q4 => ?_) (fun b o o' q1 q3 q4 => ?_) alive
    · refine kx.stay b o' ((TI.gone_get fun hm => ?_).trans q4)
      rw [List.filterMap_cons, gn.frame] at hm
      rcases List.mem_cons.mp hm with e1 | e1
      · exact q3 (.inl e1)
      · exact q2 ⟨rfl, e1⟩
    · by_cases hm : b ∈ (env :: fr).filterMap (·.frame)
      · obtain ⟨_, o2, ho2, hnf⟩ := hff.mem hm
        rw [q4] at ho2; cases ho2
        exact upto b o' q4 hnf
      · exact ⟨o'.slots, kx.stay b o' ((TI.gone_get hm).trans q4)⟩
  · refine tr.imp fun T hP => ?_
    have hP1 : s.heap.get? T = none := by
      cases z : s.heap.get? T with
      | none => rfl
      | some o => have z1 := xn.keeps T o z; have z2 : h1.get? T = none := hP.1; rw [z2] at z1; cases z1
    exact ⟨.inr ⟨hP1, hP.2⟩, gone0 T hP1⟩
end
end Mine
end
section
set_option maxRecDepth 100000
open PySem PySem.W PyProof.Rows PySem.Calls
set_option autoImplicit false
namespace Mine
section
variable {prog : Program} {w : World} {nm : Nat → Str} {base : Heap} {N : Nat} {A : Around} {fr : List Env} {env : Env} {sc : Scope} {B : Addr → Prop} {h₀ hs : Heap} {S : Sta} {s : Shared} {E : Value → Shared → Prop}
theorem Ix.flight {A' : Around} {e : Addr} {c fl : Value} {Q : Unit → Shared → Prop} (f : Option Addr) (gn : Gn A fr base h₀ N env B) (x : Ix prog w nm fr env sc B hs s.heap S e c fl)
    (k : ∀ h', Ix prog w nm fr env sc B hs h' S e c (f.elim .none fun f => rawInt f) → Q () { s with heap := h' }) : wpAny (model prog w) A' (setFlight (.ref e) f) Q E s := by
  obtain ⟨B', σ, ad, b', hB, hN, y, m, stay, ff, en, tr⟩ := x
  refine flight_set f ff stay tr fun h' kx tr' same => k h' ?_
  refine ⟨B', σ, ad, b', hB, hN, y.stepX (gn.grow hB) (fun b o hb q => (same b fun z => hb z.1).trans q) kx.up kx.al, ?_, kx.stay, kx.ff, en, tr'⟩
  have hq : ∀ b o o', hs.get? b = some o → s.heap.get? b = some o' → h'.get? b = some o' := fun b o o' q1 q2 => (same b fun z => by rw [z.2] at q1; cases q1).trans q2
  exact m.thenX (fun b o o' q1 _ _ q4 => hq b o o' q1 q4) (fun b o o' q1 _ q4 => ⟨o'.slots, hq b o o' q1 q4⟩) kx.al
theorem ff_keep {h h' b : Heap} : ∀ {l : List Env}, h.FunFrames b l → (∀ L ∈ l.filterMap (·.frame), ∀ o, h.get? L = some o → h'.get? L = some o) → h'.FunFrames b l
  | [], _, _ => trivial
  | env :: rest, hf, hn => by
    obtain ⟨h1, ⟨L, o, h2, h3, h4, h5⟩, h6⟩ := hf
    refine ⟨h1, ⟨L, o, h2, h3, hn L (by rw [List.filterMap_cons, h2]; exact List.mem_cons_self) o h4, h5⟩, ff_keep h6 fun a ha => hn a ?_⟩
    rw [List.filterMap_cons, h2]
    exact List.mem_cons_of_mem _ ha
inductive ITr (hs h : Heap) (e : Addr) (c fl : Value) : Prop
  | mk (oe : Obj) (vs : Array Value) (T : Addr) (oT : Obj) (ts : Array Value) (h1 : hs.get? T = none) (h2 : h.get? e = some oe) (h3 : oe.cls = .type "IndexError") (h4 : oe.data = .fields vs) (h5 : vs[1]? = some (.ref T)) (h6 : vs[2]? = some c) (h9 : h.get? T = some oT) (h10 : oT.data = .fields ts) (h11 : ts[3]? = some fl) : ITr hs h e c fl
theorem Ix.tr {h : Heap} {e : Addr} {c fl : Value} (x : Ix prog w nm fr env sc B hs h S e c fl) : ITr hs h e c fl := by
  obtain ⟨B', σ, ad, b', hB, hN, y, m, stay, ff, en, oe, vs, T, oT, ts, hP, h1, h2, h3, h4, h5, _, _, h6, h7, h8⟩ := x
  exact ⟨oe, vs, T, oT, ts, hP.2, h1, h2, h3, h4, h5, h6, h7, h8⟩
theorem Ix.again {A' : Around} {e : Addr} {c : Value} {Q : Unit → Shared → Prop} (gn : Gn A fr base h₀ N env B) (x : Ix prog w nm fr env sc B hs s.heap S e c (rawInt env.locals)) (k : Q () s) : wpAny (model prog w) A' (noteFrame (.ref e) env) Q E s := by
  obtain ⟨B', σ, ad, b', hB, hN, y, m, stay, ff, en, tr⟩ := x
  exact note_again gn.frame tr k
theorem Ix.st {A' : Around} {e : Addr} {c fl : Value} {i : Nat} {d : D} {u : Value} {W : Addr → Prop} (gn : Gn A fr base h₀ N env B) (nc : ∀ a, Fm.at env (fun _ => True) a → a = env.locals) (x : Ix prog w nm fr env sc B hs s.heap S e c fl) (inj : ∀ i j, nm i = nm j → i = j) (hp : putOk sc (nm i) = true) (hd : d.atom = true) (r : R prog w s.heap W u d) :
    Ok (model prog w) A' (storeName env (nm i) u) s (fun _ h' => Ix prog w nm fr env sc B hs h' (S.put i (.fr d)) e c fl) := by
  obtain ⟨B', σ, ad, b', hB, hN, x, m, stay, ff, en, tr⟩ := x
  refine store_fr (tp := true) (gn.grow hB) x inj hp (r.of_atom hd) fun σ' h' tk _ z mm k => fin ?_
  have keep : ∀ b o, b ≠ env.locals → s.heap.get? b = some o → h'.get? b = some o := fun b o hb q => k b o (fun q => hb (nc b q)) q
  obtain ⟨_, ⟨L, oL, hL1, hL2, hL3, hL4⟩, ffr⟩ := id ff
  rw [gn.frame] at hL1; cases hL1
  have notL : ∀ b o vs, s.heap.get? b = some o → o.data = .fields vs → b ≠ env.locals := fun b o vs q1 q2 e => by
    subst e; rw [hL3] at q1; cases q1; exact hL4 vs q2
  refine ⟨B', _, _, b', hB, hN, z, m.trans mm, fun b o q => keep b o (by rintro rfl; rw [hL2] at q; cases q) (stay b o q), ?_, en, ?_⟩
  · obtain ⟨m', hn, _⟩ := z.fm.ns
    obtain ⟨o, es, ep, ho, hd', _⟩ := hn
    refine ⟨ff.1, ⟨_, o, gn.frame, hL2, ho, fun vs q => by rw [hd'] at q; cases q⟩, ff_keep ffr fun a ha o q => keep a o ?_ q⟩
    rintro rfl
    obtain ⟨_, o2, ho2, _⟩ := gn.cx.ff.mem ha
    rw [gn.lnew] at ho2; cases ho2
  · obtain ⟨oe, vs, T, oT, ts, hP, he, hcl, hdd, h1, h2, hnT, hTe, hT, hdT, h3⟩ := tr
    exact ⟨oe, vs, T, oT, ts, hP, keep _ _ (notL _ _ _ he hdd) he, hcl, hdd, h1, h2, hnT, hTe, keep _ _ (notL _ _ _ hT hdT) hT, hdT, h3⟩
end
end Mine
end
section
set_option maxRecDepth 100000
open PySem PySem.W PyProof.Rows PySem.Calls
set_option autoImplicit false
namespace Mine
section
variable {prog : Program} {w : World} {nm : Nat → Str} {base : Heap} {N : Nat} {A : Around} {fr : List Env} {env : Env} {sc : Scope} {B : Addr → Prop} {h₀ hs : Heap} {S : Sta} {s : Shared} {E : Value → Shared → Prop}
theorem item_in {A' : Around} {a b : Nat} {zs : List Str} {k : Nat} {z : Str} {pa pb p : Pos} (gn : Gn A fr base h₀ N env B) (x : Iv prog w nm fr env sc B hs s.heap S) (nmd : ∀ i, (nm i == "__debug__") = false ∧ (nm i == "__classdict__") = false)
    (ha : S a = some (.fr (.lst (zs.map .str)))) (hb : S b = some (.fr (.int k))) (hk : zs[k]? = some z) (hl : zs.length ≤ 1000) :
    Ok (model prog w) A' (eval (.Subscript (.Name (nm a) pa) (.Name (nm b) pb) p) env) s (fun v h' => h' = s.heap ∧ ∃ t, v = .str z t) := by
  refine Subscript_ (x.rdK gn nmd ha fun u W tk hn ru => ?_)
  refine Iv.rdK (s := { s with toks := tk }) gn x nmd hb fun v W2 tk2 hn2 rv => ?_
  have hkl : k < zs.length := by
    rcases Nat.lt_or_ge k zs.length with q | q
    · exact q
    · rw [List.getElem?_eq_none q] at hk; cases hk
  refine R.intE rv fun t => ?_
  refine R.lstE ru fun l vs n hw hv rb => ?_
  obtain ⟨y, hy, ry⟩ := rb.get (show (zs.map D.str)[k]? = some (.str z) by rw [List.getElem?_map, hk]; rfl)
  revert hy; refine R.strE ry fun t' hy => ?_
  have hlen := rb.length
  rw [List.length_map] at hlen
  exact tail_any (isList_of_sq hv).typeIs slot_list_getitem.lookup (wpAny_getItem_list (isList_of_sq hv) (by omega) (by omega) (by simpa using hy) ⟨_, _, rfl, rfl, _, rfl⟩) rfl
theorem item_out {A' : Around} {a b : Nat} {zs : List Str} {k : Nat} {pa pb p : Pos} {Q : Value → Shared → Prop} (gn : Gn A fr base h₀ N env B) (x : Iv prog w nm fr env sc B hs s.heap S) (nmd : ∀ i, (nm i == "__debug__") = false ∧ (nm i == "__classdict__") = false)
    (ha : S a = some (.fr (.lst (zs.map .str)))) (hb : S b = some (.fr (.int k))) (hk : k = zs.length) (hl : zs.length ≤ 1000) (hc : noCtx s.heap A'.handled)
    (h : ∀ h' tk e, XN s.heap h' e (ctxOf A'.handled) → E (.ref e) (up s h' tk)) :
    wpAny (model prog w) A' (eval (.Subscript (.Name (nm a) pa) (.Name (nm b) pb) p) env) Q E s := by
  refine Subscript_ (x.rdK gn nmd ha fun u W tk hn ru => ?_)
  refine Iv.rdK (s := { s with toks := tk }) gn x nmd hb fun v W2 tk2 hn2 rv => ?_
  refine R.intE rv fun t => ?_
  refine R.lstE ru fun l vs n hw hv rb => ?_
  have hlen := rb.length
  rw [List.length_map] at hlen
  exact tail_any (isList_of_sq hv).typeIs slot_list_getitem.lookup (listItem_out (s := { s with toks := tk2 }) hc (isList_of_sq hv) (by simp; omega) (by omega) fun h' tk e xn => h h' tk e xn) rfl
end
end Mine
end
section
set_option maxRecDepth 100000
open PySem PySem.W PyProof.Rows PySem.Calls
set_option autoImplicit false
namespace Mine
section
variable {prog : Program} {w : World} {nm : Nat → Str} {base : Heap} {N : Nat} {A : Around} {fr : List Env} {env : Env} {sc : Scope} {B : Addr → Prop} {h₀ hs : Heap} {S : Sta} {s : Shared} {E : Value → Shared → Prop}
theorem aug_ok {A' : Around} {PP : Heap → Sta → Prop} {i : Nat} {k : Int} {pi pc p : Pos} (gn : Gn A fr base h₀ N env B) (x : Iv prog w nm fr env sc B hs s.heap S) (nmd : ∀ i, (nm i == "__debug__") = false ∧ (nm i == "__classdict__") = false)
    (hi : S i = some (.fr (.int k))) (store : ∀ u s', s'.heap = s.heap → (∃ W, R prog w s.heap W u (.int (k + 1))) → Ok (model prog w) A' (storeName env (nm i) u) s' (fun _ h' => PP h' (S.put i (.fr (.int (k + 1)))))) :
    Ok (model prog w) A' (exec (.AugAssign (.Name (nm i) pi) .Add (.Constant (.int 1) 0 pc) p) env) s (fun f h' => f = .next ∧ PP h' (S.put i (.fr (.int (k + 1))))) := by
  obtain ⟨B', σ, ad, hB, hN, y, m⟩ := x
  obtain ⟨hk, u, hu, c⟩ := y.sl i _ hi
  refine wpAny_AugAssign_Name ((load_slot (P := fun v h' => v = u ∧ h' = s.heap) gn.g y (nmd i) hi hu ⟨rfl, rfl⟩).wpE fun tk1 hn1 => ?_)
  have ru : ∃ W, R prog w s.heap W u (.int k) := by
    generalize ad i = as at c
    cases c with | fr r => exact ⟨_, r⟩
  obtain ⟨W, ru⟩ := ru
  refine wpAny_Constant_int ?_
  refine R.intE ru fun t => ?_
  refine P.iadd_int ?_
  refine (store _ { s with toks := tk1 + 1 + 1 } rfl ⟨fun _ => False, R.int (k + 1) _⟩).mono fun _ h' q => ⟨rfl, q⟩
end
end Mine
end
section
set_option maxRecDepth 100000
open PySem PySem.W PyProof.Rows PySem.Calls
set_option autoImplicit false
namespace Mine
section
variable {prog : Program} {w : World} {nm : Nat → Str} {base : Heap} {N : Nat} {A : Around} {fr : List Env} {env : Env} {sc : Scope} {B : Addr → Prop} {h₀ hs : Heap} {S : Sta} {s : Shared} {E : Value → Shared → Prop}
theorem while_no {A' : Around} {a b c : Nat} {zs : List Str} {k : Nat} {z y : Str} {pa pb pc p p2 p3 : Pos} {body : List Stmt} (gn : Gn A fr base h₀ N env B) (x : Iv prog w nm fr env sc B hs s.heap S) (nmd : ∀ i, (nm i == "__debug__") = false ∧ (nm i == "__classdict__") = false)
    (ha : S a = some (.fr (.lst (zs.map .str)))) (hb : S b = some (.fr (.int k))) (hc : S c = some (.fr (.str y))) (hk : zs[k]? = some z) (hl : zs.length ≤ 1000) (hz : (z == y) = false) :
    Ok (model prog w) A' (exec (.While (.Compare (.Subscript (.Name (nm a) pa) (.Name (nm b) pb) p) [.Eq] [.Name (nm c) pc] p2) body [] p3) env) s (fun f h' => f = .next ∧ h' = s.heap) := by
  refine wpAny_While (codeAny_whileLoop (fun _ s' => s' = s) (fun n s' hs' => ?_) 0 rfl)
  subst hs'
  refine wpAny_isTrue_Compare1 ((item_in gn x nmd ha hb hk hl).wp fun u h' tk hn q => ?_) rfl
  obtain ⟨rfl, t, rfl⟩ := q
  refine Iv.rdK (s := { s' with toks := tk }) gn x nmd hc fun v W tk2 hn2 rv => ?_
  refine R.strE rv fun t2 => ?_
  refine PyProof.Rows.eq_str ?_
  rw [hz]
  exact wpAny_truthy_bool (wpAny_execs_nil ⟨_, _, rfl, rfl, rfl⟩)
theorem while_out {A' : Around} {a b c : Nat} {zs : List Str} {k : Nat} {pa pb pc p p2 p3 : Pos} {body : List Stmt} {Q : Flow → Shared → Prop} (gn : Gn A fr base h₀ N env B) (hfr : A'.frames = some (env :: fr)) (hff : s.heap.FunFrames base (env :: fr)) (hmB : ∀ a, frA (env :: fr) a → B a)
    (x : Iv prog w nm fr env sc B hs s.heap S) (nmd : ∀ i, (nm i == "__debug__") = false ∧ (nm i == "__classdict__") = false)
    (ha : S a = some (.fr (.lst (zs.map .str)))) (hb : S b = some (.fr (.int k))) (hk : k = zs.length) (hl : zs.length ≤ 1000) (hc : noCtx s.heap A'.handled)
    (h : ∀ h' tk e, Ix prog w nm fr env sc B hs h' S e (ctxOf A'.handled) (rawInt env.locals) → E (.ref e) (up s h' tk)) :
    wpAny (model prog w) A' (exec (.While (.Compare (.Subscript (.Name (nm a) pa) (.Name (nm b) pb) p) [.Eq] [.Name (nm c) pc] p2) body [] p3) env) Q E s := by
  refine wpAny_While (codeAny_whileLoop (fun _ s' => s' = s) (fun n s' hs' => ?_) 0 rfl)
  subst hs'
  refine wpAny_isTrue_Compare1 (item_out gn x nmd ha hb hk hl hc fun h1 tk e xn => ?_) rfl
  refine Iv.note gn hfr hff hmB x xn fun h2 ix => ?_
  obtain ⟨oe, vs, T, _, _, _, he, _, hd, h1', _⟩ := ix.tr
  refine wpAny_bind (wpAny_field he hd h1' ?_)
  rw [if_neg (by simp)]
  rw [show env.frame = some env.locals from gn.frame]
  exact Ix.flight (s := (up s' h2 tk)) (some env.locals) gn ix fun h3 ix3 => h h3 tk e ix3
end
end Mine
end
section
set_option maxRecDepth 100000
open PySem PySem.W PyProof.Rows PySem.Calls
set_option autoImplicit false
namespace Mine
section
variable {prog : Program} {w : World} {nm : Nat → Str} {base : Heap} {N : Nat} {A : Around} {fr : List Env} {env : Env} {sc : Scope} {B : Addr → Prop} {h₀ hs : Heap} {S : Sta} {s : Shared} {E : Value → Shared → Prop}
theorem asg_in {A' : Around} {a b c : Nat} {zs : List Str} {k : Nat} {z : Str} {pa pb pc p p2 : Pos} (gn : Gn A fr base h₀ N env B) (x : Iv prog w nm fr env sc B hs s.heap S) (nmd : ∀ i, (nm i == "__debug__") = false ∧ (nm i == "__classdict__") = false) (inj : ∀ i j, nm i = nm j → i = j) (hp : putOk sc (nm c) = true)
    (ha : S a = some (.fr (.lst (zs.map .str)))) (hb : S b = some (.fr (.int k))) (hk : zs[k]? = some z) (hl : zs.length ≤ 1000) :
    Ok (model prog w) A' (exec (.Assign [.Name (nm c) pc] (.Subscript (.Name (nm a) pa) (.Name (nm b) pb) p) p2) env) s (fun f h' => f = .next ∧ Iv prog w nm fr env sc B hs h' (S.put c (.fr (.str z)))) := by
  refine wpAny_Assign_Name ((item_in gn x nmd ha hb hk hl).wp fun u h' tk hn q => ?_)
  obtain ⟨rfl, t, rfl⟩ := q
  exact (Iv.st (s := { s with toks := tk }) gn x inj hp rfl (R.str (W := fun _ => False) z t)).mono fun _ h' q => ⟨rfl, q⟩
theorem asg_out {A' : Around} {a b c : Nat} {zs : List Str} {k : Nat} {pa pb pc p p2 : Pos} {Q : Flow → Shared → Prop} (gn : Gn A fr base h₀ N env B) (x : Iv prog w nm fr env sc B hs s.heap S) (nmd : ∀ i, (nm i == "__debug__") = false ∧ (nm i == "__classdict__") = false)
    (ha : S a = some (.fr (.lst (zs.map .str)))) (hb : S b = some (.fr (.int k))) (hk : k = zs.length) (hl : zs.length ≤ 1000) (hc : noCtx s.heap A'.handled)
    (h : ∀ h' tk e, XN s.heap h' e (ctxOf A'.handled) → E (.ref e) (up s h' tk)) :
    wpAny (model prog w) A' (exec (.Assign [.Name (nm c) pc] (.Subscript (.Name (nm a) pa) (.Name (nm b) pb) p) p2) env) Q E s := by
  exact wpAny_Assign_Name (item_out gn x nmd ha hb hk hl hc h)
theorem app_ok {A' : Around} {i c : Nat} {ds : List D} {y : Str} {pi pa pc pq p : Pos} (gn : Gn A fr base h₀ N env B) (x : Iv prog w nm fr env sc B hs s.heap S) (nmd : ∀ i, (nm i == "__debug__") = false ∧ (nm i == "__classdict__") = false)
    (hi : S i = some (.li ds)) (hc : S c = some (.fr (.str y))) (hpos : (pa.endLine == pq.line) = true) (hl0 : ds.length ≤ 1000) :
    Ok (model prog w) A' (exec (.Expr (.Call (.Attribute (.Name (nm i) pi) "append" pa) [.Name (nm c) pc] [] pq) p) env) s (fun f h' => f = .next ∧ Iv prog w nm fr env sc B hs h' (S.put i (.li (ds ++ [.str y])))) := by
  obtain ⟨B', σ, ad, hB, hN, x', m⟩ := id x
  obtain ⟨hk, u, hu, cs⟩ := x'.sl i _ hi
  refine wpAny_Expr_any ?_ (by unfold interactive; rw [gn.g.kind]; rfl) rfl
  have hu1 : ∃ a us m, u = .ref a ∧ ad i = [a] ∧ s.heap.get? a = some (sq "list" us m) := by
    generalize ad i = as at cs
    cases cs with | li e1 _ _ => exact ⟨_, _, _, rfl, rfl, e1⟩
  obtain ⟨a, us0, m0, rfl, hadi, hl1⟩ := hu1
  refine wpAny_Call_method_lateS rfl rfl hpos ((show Ok (model prog w) A' (eval (.Name (nm i) pi) env) s (fun v h' => v = .ref a ∧ h' = s.heap) from wpAny_Name (load_slot gn.g x' (nmd i) hi hu ⟨rfl, rfl⟩) (nmd i).1).wpE fun tk1 hn1 => ?_)
  refine ⟨"list", "list.append", F.plainAttrs_list, F.slot_list_append, F.type_list_append, ⟨_, hl1, rfl⟩, (fun b q => by cases q; exact ⟨_, hl1, rfl⟩), ?_⟩
  refine callWith_builtin rfl (evalArgs_plain (spliced_cons (Iv.rdK (s := { s with toks := tk1 }) gn x nmd hc fun v2 W tk2 hn2 r2 => ?_)))
  refine spliced_nil ?_
  rw [hadi] at cs
  cases cs with | @li _ us m' _ hl rl hat =>
  have hlen := rl.length
  refine wpAny_list_append_plain (items := us.toArray) ⟨m', hl⟩ (fun h3 hl3 hsb => ?_) (by rw [List.size_toArray, hlen, sizeLine_eq]; omega)
  obtain ⟨m2, hl3⟩ := hl3
  have hl3' : h3.get? a = some (sq "list" (us ++ [v2]) m2) := by rw [hl3]; simp [sq]
  have hat' : (ds ++ [D.str y]).all D.atom = true := by rw [List.all_append, hat]; rfl
  obtain ⟨z, mv⟩ := own_change (tp := true) (fr := fr) (s := s) (h' := h3) (sl' := .li (ds ++ [.str y])) x' hi hu (gn.grow hB) (fun b o hb e => (hsb.2 b fun q => hb (by rw [hadi]; exact List.mem_singleton.mpr q)).trans e)
    (by rw [hadi]; exact .li hl3' ((rl.append (.cons (r2.of_atom rfl) .nil)).atoms hat') hat')
  exact ⟨_, _, rfl, rfl, B', σ, ad, hB, hN, z, m.trans mv⟩
end
end Mine
end
section
set_option maxRecDepth 100000
open PySem PySem.W PyProof.Rows PySem.Calls
set_option autoImplicit false
namespace Mine
section
variable {prog : Program} {w : World} {nm : Nat → Str} {base : Heap} {N : Nat} {A : Around} {fr : List Env} {env : Env} {sc : Scope} {B : Addr → Prop} {h₀ hs : Heap} {S : Sta} {s : Shared} {E : Value → Shared → Prop}
theorem tail_ok {A' : Around} {a b : Nat} {zs : List Str} {k : Nat} {pa pb ps p : Pos} (gn : Gn A fr base h₀ N env B) (x : Iv prog w nm fr env sc B hs s.heap S) (nmd : ∀ i, (nm i == "__debug__") = false ∧ (nm i == "__classdict__") = false)
    (ha : S a = some (.fr (.lst (zs.map .str)))) (hb : S b = some (.fr (.int k))) (hl : zs.length ≤ 1000) :
    Ok (model prog w) A' (eval (.Subscript (.Name (nm a) pa) (.Slice (some (.Name (nm b) pb)) none none ps) p) env) s (fun v h' => (∀ b o, s.heap.get? b = some o → h'.get? b = some o) ∧ R prog w h' (fun _ => False) v (.lst ((zs.drop k).map .str))) := by
  refine Subscript_ (x.rdK gn nmd ha fun u W tk hn ru => ?_)
  refine wpAny_Slice ?_
  show wpAny _ _ (eval (.Name (nm b) pb) env) _ _ _
  refine Iv.rdK (s := { s with toks := tk }) gn x nmd hb fun v W2 tk2 hn2 rv => ?_
  rw [evalPart_none]
  refine wpAny_pure (wpAny_pure ?_)
  have ru' : R prog w s.heap (fun _ => False) u (.lst (zs.map .str)) := ru.mono (fun _ _ _ e => e) fun _ q => q.elim
  have hd : sliceD (.lst (zs.map .str)) (some (.int k)) none = some (.lst ((zs.drop k).map .str)) := by
    have h1 : cutAt zs.length (some (.int k)) 0 = some (min k zs.length) := by simp [cutAt]
    have h2 : cutAt zs.length none zs.length = some zs.length := rfl
    show (match cutAt (zs.map D.str).length (some (.int k)) 0, cutAt (zs.map D.str).length none (zs.map D.str).length with
      | some i, some j => if (zs.map D.str).length ≤ listLine then some (D.lst (((zs.map D.str).take j).drop i)) else none
      | _, _ => none) = _
    rw [List.length_map, h1, h2]
    show (if zs.length ≤ listLine then _ else none) = _
    rw [if_pos (by unfold listLine; omega), ← List.map_take, ← List.map_drop, List.take_length]
    congr 3
    rcases Nat.le_total k zs.length with q | q
    · rw [Nat.min_eq_left q]
    · rw [Nat.min_eq_right q, List.drop_eq_nil_of_le q, List.drop_length]
  obtain ⟨T, id, hT, hl', g⟩ := getItem_slice_ok (A := A') (s := { s with toks := tk2 }) hd ru' (PartR.of rv) .none (fun _ _ q => q)
  exact tail_any (hT _ rfl) hl' (g.wp fun c h3 tk3 hn3 p3 => ⟨_, _, rfl, p3⟩) rfl
theorem ext_ok {A' : Around} {i a b : Nat} {ds : List D} {zs : List Str} {k : Nat} {pi pa pq p pa' pb ps p2 : Pos} (gn : Gn A fr base h₀ N env B) (x : Iv prog w nm fr env sc B hs s.heap S) (nmd : ∀ i, (nm i == "__debug__") = false ∧ (nm i == "__classdict__") = false)
    (hi : S i = some (.li ds)) (ha : S a = some (.fr (.lst (zs.map .str)))) (hb : S b = some (.fr (.int k))) (hpos : (pa.endLine == pq.line) = true) (hl0 : ds.length ≤ 1000) (hl : zs.length ≤ 1000) :
    Ok (model prog w) A' (exec (.Expr (.Call (.Attribute (.Name (nm i) pi) "extend" pa) [.Subscript (.Name (nm a) pa') (.Slice (some (.Name (nm b) pb)) none none ps) p2] [] pq) p) env) s (fun f h' => f = .next ∧ Iv prog w nm fr env sc B hs h' (S.put i (.li (ds ++ (zs.drop k).map .str)))) := by
  obtain ⟨B', σ, ad, hB, hN, x', m⟩ := id x
  obtain ⟨hk, u, hu, cs⟩ := x'.sl i _ hi
  refine wpAny_Expr_any ?_ (by unfold interactive; rw [gn.g.kind]; rfl) rfl
  have hu1 : ∃ a us m, u = .ref a ∧ ad i = [a] ∧ s.heap.get? a = some (sq "list" us m) := by
    generalize ad i = as at cs
    cases cs with | li e1 _ _ => exact ⟨_, _, _, rfl, rfl, e1⟩
  obtain ⟨l, us0, m0, rfl, hadi, hl1⟩ := hu1
  refine wpAny_Call_method_lateS rfl rfl hpos ((show Ok (model prog w) A' (eval (.Name (nm i) pi) env) s (fun v h' => v = .ref l ∧ h' = s.heap) from wpAny_Name (load_slot gn.g x' (nmd i) hi hu ⟨rfl, rfl⟩) (nmd i).1).wpE fun tk1 hn1 => ?_)
  refine ⟨"list", "list.extend", F.plainAttrs_list, F.slot_list_extend, F.type_list_extend, ⟨_, hl1, rfl⟩, (fun b q => by cases q; exact ⟨_, hl1, rfl⟩), ?_⟩
  refine callWith_builtin rfl (evalArgs_plain (spliced_cons ((tail_ok (s := { s with toks := tk1 }) gn x nmd ha hb hl).wp2 fun v2 h2 tk2 hn2 k2 r2 => ?_)))
  refine spliced_nil ?_
  refine R.lstE r2 fun l2 us2 n2 _ hl2 rl2 => ?_
  have y := x'.stepX (gn.grow hB) (fun b o _ e => k2 b o e) (.of_keeps k2) fun a o e => ⟨o, k2 a o e⟩
  have m' := m.trans (Mv.eval (tp := true) (gn.grow hB) (Kp.of k2))
  have cs := y.at hi hu
  rw [hadi] at cs
  cases cs with | @li _ us mm _ hll rl hat =>
  have hlen := rl.length
  have hlen2 := rl2.length
  rw [List.length_map, List.length_drop] at hlen2
  refine call_meets PySem.F.slot_list_extend ⟨_, hll, rfl⟩ PySem.F.entry_list_extend (PySem.F.args_list_extend_2 _ _) (AutoSeq1.list_extend_list_list_0 l us.toArray mm l2 us2.toArray n2 ?_ ?_ ?_) ⟨hll, hl2, ?_⟩
  · exact extend_door (by simp only [List.size_toArray, sizeLine_eq]; omega)
  · simp only [List.size_toArray, sizeLine_eq]; omega
  · simp only [List.size_toArray, sizeLine_eq]; omega
  show ∃ h' tk, _
  have hsame : ∀ b o, b ≠ l → h2.get? b = some o → (h2.update l (Obj.mapSeq fun x => x ++ us2.toArray)).get? b = some o := fun b o hb e => (Heap.get?_update_ne _ _ _ _ hb).trans e
  have hnew : ∃ n3, (h2.update l (Obj.mapSeq fun x => x ++ us2.toArray)).get? l = some (sq "list" (us ++ us2) n3) := ⟨_, by rw [get?_update_seq hll (fun x => x ++ us2.toArray), List.append_toArray]⟩
  obtain ⟨n3, hl3⟩ := hnew
  have hatz : ((zs.drop k).map D.str).all D.atom = true := by rw [List.all_eq_true]; intro d hd; obtain ⟨z, _, rfl⟩ := List.mem_map.mp hd; rfl
  have hat' : (ds ++ (zs.drop k).map D.str).all D.atom = true := by rw [List.all_append, hat, hatz]; rfl
  obtain ⟨z, mv⟩ := own_change (tp := true) (fr := fr) (s := (up s h2 tk2)) (h' := h2.update l (Obj.mapSeq fun x => x ++ us2.toArray)) (sl' := .li (ds ++ (zs.drop k).map .str)) y hi hu (gn.grow hB) (fun b o hb e => hsame b o (by rw [hadi] at hb; simpa using hb) e)
    (by rw [hadi]; exact .li hl3 ((rl.append (rl2.atoms hatz)).atoms hat') hat')
  exact ⟨_, _, rfl, rfl, B', σ, ad, hB, hN, z, m'.trans mv⟩
end
end Mine
end
section
set_option maxRecDepth 100000
open PySem PySem.W PyProof.Rows PySem.Calls
set_option autoImplicit false
namespace Mine
noncomputable def mg : List Str → List Str → List Str × List Str
  | [], ys => ([], ys)
  | xs, [] => (xs, [])
  | x :: xs, y :: ys => if ltS x y then (x :: (mg xs (y :: ys)).1, (mg xs (y :: ys)).2) else if ltS y x then ((mg (x :: xs) ys).1, y :: (mg (x :: xs) ys).2) else mg xs ys
termination_by xs ys => xs.length + ys.length
theorem ltS_lt {a b : Str} : ltS a b = true ↔ a.cps.toList < b.cps.toList := by unfold ltS; exact decide_eq_true_iff
theorem ltS_trans {a b c : Str} (h : ltS a b = true) (h' : ltS b c = true) : ltS a c = true := ltS_lt.mpr (List.lt_trans (ltS_lt.mp h) (ltS_lt.mp h'))
theorem ltS_irrefl (a : Str) : ltS a a = false := by
  cases h : ltS a a with
  | false => rfl
  | true => exact absurd (ltS_lt.mp h) (List.lt_irrefl _)
theorem ltS_ne {a b : Str} (h : ltS a b = true) : a ≠ b := by rintro rfl; rw [ltS_irrefl] at h; cases h
theorem rising_all : ∀ {x : Str} {xs : List Str}, rising (x :: xs) = true → (∀ z ∈ xs, ltS x z = true) ∧ rising xs = true
  | x, [], _ => ⟨(fun z h => (by cases h)), rfl⟩
  | x, y :: r, h => by
    unfold rising at h
    rw [Bool.and_eq_true] at h
    obtain ⟨h1, h2⟩ := rising_all h.2
    refine ⟨fun z hz => ?_, h.2⟩
    rcases List.mem_cons.mp hz with rfl | hz
    · exact h.1
    · exact ltS_trans h.1 (h1 z hz)
theorem lessS_cons_far {x : Str} {xs ys : List Str} (h : ∀ z ∈ xs, z ≠ x) : lessS xs (x :: ys) = lessS xs ys := by
  unfold lessS
  refine List.filter_congr fun z hz => ?_
  rw [List.contains_cons, beq_false_of_ne (h z hz), Bool.false_or]
theorem lessS_nil (xs : List Str) : lessS xs [] = xs := by
  unfold lessS
  rw [List.filter_eq_self]
  intro a _
  rfl
theorem mg_eq : ∀ (xs ys : List Str), rising xs = true → rising ys = true → mg xs ys = (lessS xs ys, lessS ys xs)
  | [], ys, _, _ => by unfold mg; rw [lessS_nil]; rfl
  | x :: xs, [], _, _ => by unfold mg; rw [lessS_nil]; rfl
  | x :: xs, y :: ys, hx, hy => by
    obtain ⟨hx1, hx2⟩ := rising_all hx
    obtain ⟨hy1, hy2⟩ := rising_all hy
    unfold mg
    by_cases h1 : ltS x y = true
    · rw [if_pos h1, mg_eq xs (y :: ys) hx2 hy]
      have nx : ∀ z ∈ y :: ys, z ≠ x := fun z hz e => by
        subst e
        rcases List.mem_cons.mp hz with rfl | hz
        · rw [ltS_irrefl] at h1; cases h1
        · exact ltS_ne (ltS_trans h1 (hy1 _ hz)) rfl
      have nc : (y :: ys).contains x = false := by
        cases q : (y :: ys).contains x with
        | false => rfl
        | true => exact absurd rfl (nx x (by simpa using q))
      refine Prod.ext ?_ (lessS_cons_far nx).symm
      show x :: lessS xs (y :: ys) = lessS (x :: xs) (y :: ys)
      unfold lessS
      rw [List.filter_cons, if_pos (by rw [nc]; rfl)]
    · rw [if_neg h1]
      by_cases h2 : ltS y x = true
      · rw [if_pos h2, mg_eq (x :: xs) ys hx hy2]
        have ny : ∀ z ∈ x :: xs, z ≠ y := fun z hz e => by
          subst e
          rcases List.mem_cons.mp hz with rfl | hz
          · rw [ltS_irrefl] at h2; cases h2
          · exact ltS_ne (ltS_trans h2 (hx1 _ hz)) rfl
        have nc : (x :: xs).contains y = false := by
          cases q : (x :: xs).contains y with
          | false => rfl
          | true => exact absurd rfl (ny y (by simpa using q))
        refine Prod.ext (lessS_cons_far ny).symm ?_
        show y :: lessS ys (x :: xs) = lessS (y :: ys) (x :: xs)
        unfold lessS
        rw [List.filter_cons, if_pos (by rw [nc]; rfl)]
      · rw [if_neg h2, mg_eq xs ys hx2 hy2]
        have e : x = y := leS_antisymm (by unfold leS; exact Bool.eq_false_iff.mpr h2) (by unfold leS; exact Bool.eq_false_iff.mpr h1)
        subst e
        have a1 : lessS (x :: xs) (x :: ys) = lessS xs ys := by
          rw [← lessS_cons_far (fun z hz e => ltS_ne (hx1 z hz) e.symm)]
          unfold lessS
          rw [List.filter_cons, if_neg (by simp)]
        have a2 : lessS (x :: ys) (x :: xs) = lessS ys xs := by
          rw [← lessS_cons_far (fun z hz e => ltS_ne (hy1 z hz) e.symm)]
          unfold lessS
          rw [List.filter_cons, if_neg (by simp)]
        rw [a1, a2]
termination_by xs ys => xs.length + ys.length
end Mine
end
section
set_option maxRecDepth 100000
open PySem PySem.W PyProof.Rows PySem.Calls
set_option autoImplicit false
namespace Mine
structure Stt (xs ys : List Str) (i j : Nat) (m u : List Str) (S : Sta) : Prop where
  x : S 0 = some (.fr (.lst (xs.map .str)))
  y : S 1 = some (.fr (.lst (ys.map .str)))
  i : S 2 = some (.fr (.int i))
  j : S 3 = some (.fr (.int j))
  m : S 4 = some (.li (m.map .str))
  u : S 5 = some (.li (u.map .str))
section
variable {xs ys : List Str} {i j : Nat} {m u : List Str} {S : Sta}
theorem Stt.put (x : Stt xs ys i j m u S) {k : Nat} (hk : 6 ≤ k) (sl : Slot) : Stt xs ys i j m u (S.put k sl) := by
  obtain ⟨a, b, c, d, e, f⟩ := x
  constructor <;> (unfold Sta.put; rw [if_neg (by omega)]; assumption)
theorem Stt.putI (x : Stt xs ys i j m u S) (i' : Nat) : Stt xs ys i' j m u (S.put 2 (.fr (.int i'))) := by
  obtain ⟨a, b, c, d, e, f⟩ := x
  constructor <;> (unfold Sta.put; first | (rw [if_neg (by omega)]; assumption) | rw [if_pos rfl])
theorem Stt.putJ (x : Stt xs ys i j m u S) (j' : Nat) : Stt xs ys i j' m u (S.put 3 (.fr (.int j'))) := by
  obtain ⟨a, b, c, d, e, f⟩ := x
  constructor <;> (unfold Sta.put; first | (rw [if_neg (by omega)]; assumption) | rw [if_pos rfl])
theorem Stt.putM (x : Stt xs ys i j m u S) (m' : List Str) : Stt xs ys i j m' u (S.put 4 (.li (m'.map .str))) := by
  obtain ⟨a, b, c, d, e, f⟩ := x
  constructor <;> (unfold Sta.put; first | (rw [if_neg (by omega)]; assumption) | rw [if_pos rfl])
theorem Stt.putU (x : Stt xs ys i j m u S) (u' : List Str) : Stt xs ys i j m u' (S.put 5 (.li (u'.map .str))) := by
  obtain ⟨a, b, c, d, e, f⟩ := x
  constructor <;> (unfold Sta.put; first | (rw [if_neg (by omega)]; assumption) | rw [if_pos rfl])
end
section
variable {prog : Program} {w : World} {nm : Nat → Str} {base : Heap} {N : Nat} {A : Around} {fr : List Env} {env : Env} {sc : Scope} {B : Addr → Prop} {h₀ hs : Heap} {S : Sta} {s : Shared} {E : Value → Shared → Prop}
theorem Iv.cx (go : Go A fr base h₀ N env B true hs (fun _ => [])) (x : Iv prog w nm fr env sc B hs s.heap S) : Cx (A.deeper env) (env :: fr) base s.heap N := by
  obtain ⟨B', σ, ad, hB, hN, y, m⟩ := x
  exact (SI.st (s := { s with toks := 1 }) (go.gn.grow hB) y (go.move m).keep (Nat.zero_le _)).cx
theorem Iv.scope {h : Heap} (x : Iv prog w nm fr env sc B hs h S) : env.scope = sc := by
  obtain ⟨B', σ, ad, hB, hN, y, m⟩ := x
  exact y.sc
theorem Go.frB (go : Go A fr base h₀ N env B true hs (fun _ => [])) : ∀ a, frA (env :: fr) a → B a := fun a q => by
  unfold frA at q
  rw [List.filterMap_cons, go.gn.frame] at q
  rcases List.mem_cons.mp q with rfl | q
  · exact go.gn.fmB _ (.inl rfl)
  · exact go.gn.frB a q
structure GlS (nm : Nat → Str) (base : Heap) (sc : Scope) (mg mb : Str → Option Value) : Prop where
  nmd : ∀ i, (nm i == "__debug__") = false ∧ (nm i == "__classdict__") = false
  inj : ∀ i j, nm i = nm j → i = j
  g : base.Ns mainGlobals mg
  b : base.Ns builtinsNs mb
  ie : mg "IndexError" = none ∧ mb "IndexError" = some (.type "IndexError")
  isg : isG sc "IndexError" = true
  put : ∀ k, k < 8 → putOk sc (nm k) = true
variable {mg mb : Str → Option Value}
theorem handler_ok {A' : Around} {e : Addr} {c fl : Value} {xs ys : List Str} {i j : Nat} {m u : List Str} {p0 ph pb a1 a2 a3 a4 a5 a6 a7 a8 b1 b2 b3 b4 b5 b6 b7 b8 : Pos}
    (G : GlS nm base sc mg mb) (go : Go A fr base h₀ N env B true hs (fun _ => [])) (x : Ix prog w nm fr env sc B hs s.heap S e c fl) (st : Stt xs ys i j m u S)
    (hx : xs.length ≤ 100) (hy : ys.length ≤ 100) (hm : m.length ≤ 1000) (hu : u.length ≤ 1000) (hp1 : (a2.endLine == a3.line) = true) (hp2 : (b2.endLine == b3.line) = true) :
    Ok (model prog w) A' (handleBy (.ref e) env [.ExceptHandler (some (.Name "IndexError" p0)) none
      [.Expr (.Call (.Attribute (.Name (nm 4) a1) "extend" a2) [.Subscript (.Name (nm 0) a5) (.Slice (some (.Name (nm 2) a6)) none none a7) a8] [] a3) a4,
       .Expr (.Call (.Attribute (.Name (nm 5) b1) "extend" b2) [.Subscript (.Name (nm 1) b5) (.Slice (some (.Name (nm 3) b6)) none none b7) b8] [] b3) b4, .Break pb] ph]) s
      (fun f h' => f = .brk ∧ ∃ S', Iv prog w nm fr env sc B hs h' S' ∧ S' 4 = some (.li ((m ++ xs.drop i).map .str)) ∧ S' 5 = some (.li ((u ++ ys.drop j).map .str))) := by
  have iv := x.iv
  have cx := iv.cx go
  have hk : env.kindOf "IndexError" = some .globalImplicit := by
    have := G.isg; unfold isG at this; unfold Env.kindOf; rw [iv.scope]; exact eq_of_beq this
  refine wpAny_handleBy_builtin (X := "IndexError") (T := "IndexError") (b := true) (isSubtype_of_subB (by decide +kernel)) (isSubtype_of_subB (by decide +kernel)) (isSubtype_of_subB (by decide +kernel)) ?_
  refine Calls.Name_function_global go.gn.g.kind hk (Calls.loadGlobal_builtin (mg := mg) (mb := mb) ?_ G.ie.1 ?_ G.ie.2 ?_) (by decide)
  · rw [go.gn.g.gl]; exact G.g.keeps cx.stay
  · rw [go.gn.g.bl]; exact G.b.keeps cx.stay
  refine ⟨rfl, ?_, ?_⟩
  · obtain ⟨oe, _, _, _, _, _, he, hcl, _⟩ := x.tr
    exact ⟨_, he, hcl⟩
  rw [if_pos rfl]
  refine x.flight none go.gn fun h1 ix => ?_
  refine wpAny_execs_cons ((ext_ok (s := { s with heap := h1 }) go.gn ix.iv G.nmd st.m st.x st.i hp1 (by rw [List.length_map]; exact hm) (by omega)).wpF fun h2 tk2 hn2 iv2 => ?_)
  rw [← List.map_append] at iv2
  have st2 := st.putM (m ++ xs.drop i)
  refine wpAny_execs_cons ((ext_ok (s := (up s h2 tk2)) go.gn iv2 G.nmd st2.u st2.y st2.j hp2 (by rw [List.length_map]; exact hu) (by omega)).wpF fun h3 tk3 hn3 iv3 => ?_)
  rw [← List.map_append] at iv3
  refine wpAny_execs_cons (wpAny_Break ?_)
  exact ⟨_, _, rfl, rfl, _, iv3, (st2.putU _).m, (st2.putU _).u⟩
end
end Mine
end
section
set_option maxRecDepth 100000
open PySem PySem.W PyProof.Rows PySem.Calls
set_option autoImplicit false
namespace Mine
noncomputable def sIn (nm : Nat → Str) : Stmt := (.Try (body := [ (.While (test := (.Compare (left := (.Subscript (value := (.Name (nm 0) ⟨26,26,26,34⟩)) (slice := (.Name (nm 2) ⟨26,35,26,36⟩)) (pos := ⟨26,26,26,37⟩))) (ops := [.Eq]) (comparators := [(.Name (nm 6) ⟨26,41,26,42⟩)]) (pos := ⟨26,26,26,42⟩))) (body := [ (.AugAssign (target := (.Name (nm 2) ⟨27,24,27,25⟩)) (op := .Add) (value := (.Constant (.int 1) 0 ⟨27,29,27,30⟩)) (pos := ⟨27,24,27,30⟩))]) (orelse := []) (pos := ⟨26,20,27,30⟩))]) (handlers := []) (orelse := []) (finalbody := [ (.AugAssign (target := (.Name (nm 3) ⟨29,20,29,21⟩)) (op := .Add) (value := (.Constant (.int 1) 0 ⟨29,25,29,26⟩)) (pos := ⟨29,20,29,26⟩)), (.While (test := (.Compare (left := (.Subscript (value := (.Name (nm 1) ⟨30,26,30,32⟩)) (slice := (.Name (nm 3) ⟨30,33,30,34⟩)) (pos := ⟨30,26,30,35⟩))) (ops := [.Eq]) (comparators := [(.Name (nm 7) ⟨30,39,30,40⟩)]) (pos := ⟨30,26,30,40⟩))) (body := [ (.AugAssign (target := (.Name (nm 3) ⟨31,24,31,25⟩)) (op := .Add) (value := (.Constant (.int 1) 0 ⟨31,29,31,30⟩)) (pos := ⟨31,24,31,30⟩))]) (orelse := []) (pos := ⟨30,20,31,30⟩))]) (pos := ⟨25,16,31,30⟩))
noncomputable def sIf (nm : Nat → Str) : Stmt := (.If (test := (.Compare (left := (.Name (nm 6) ⟨13,15,13,16⟩)) (ops := [.Lt]) (comparators := [(.Name (nm 7) ⟨13,19,13,20⟩)]) (pos := ⟨13,15,13,20⟩))) (body := [ (.Expr (value := (.Call (func := (.Attribute (.Name (nm 4) ⟨14,16,14,23⟩) "append" ⟨14,16,14,30⟩)) (args := [(.Name (nm 6) ⟨14,31,14,32⟩)]) (keywords := []) (pos := ⟨14,16,14,33⟩))) (pos := ⟨14,16,14,33⟩)), (.AugAssign (target := (.Name (nm 2) ⟨15,16,15,17⟩)) (op := .Add) (value := (.Constant (.int 1) 0 ⟨15,21,15,22⟩)) (pos := ⟨15,16,15,22⟩)), (.While (test := (.Compare (left := (.Subscript (value := (.Name (nm 0) ⟨16,22,16,30⟩)) (slice := (.Name (nm 2) ⟨16,31,16,32⟩)) (pos := ⟨16,22,16,33⟩))) (ops := [.Eq]) (comparators := [(.Name (nm 6) ⟨16,37,16,38⟩)]) (pos := ⟨16,22,16,38⟩))) (body := [ (.AugAssign (target := (.Name (nm 2) ⟨17,20,17,21⟩)) (op := .Add) (value := (.Constant (.int 1) 0 ⟨17,25,17,26⟩)) (pos := ⟨17,20,17,26⟩))]) (orelse := []) (pos := ⟨16,16,17,26⟩))]) (orelse := [ (.If (test := (.Compare (left := (.Name (nm 6) ⟨18,17,18,18⟩)) (ops := [.Gt]) (comparators := [(.Name (nm 7) ⟨18,21,18,22⟩)]) (pos := ⟨18,17,18,22⟩))) (body := [ (.Expr (value := (.Call (func := (.Attribute (.Name (nm 5) ⟨19,16,19,26⟩) "append" ⟨19,16,19,33⟩)) (args := [(.Name (nm 7) ⟨19,34,19,35⟩)]) (keywords := []) (pos := ⟨19,16,19,36⟩))) (pos := ⟨19,16,19,36⟩)), (.AugAssign (target := (.Name (nm 3) ⟨20,16,20,17⟩)) (op := .Add) (value := (.Constant (.int 1) 0 ⟨20,21,20,22⟩)) (pos := ⟨20,16,20,22⟩)), (.While (test := (.Compare (left := (.Subscript (value := (.Name (nm 1) ⟨21,22,21,28⟩)) (slice := (.Name (nm 3) ⟨21,29,21,30⟩)) (pos := ⟨21,22,21,31⟩))) (ops := [.Eq]) (comparators := [(.Name (nm 7) ⟨21,35,21,36⟩)]) (pos := ⟨21,22,21,36⟩))) (body := [ (.AugAssign (target := (.Name (nm 3) ⟨22,20,22,21⟩)) (op := .Add) (value := (.Constant (.int 1) 0 ⟨22,25,22,26⟩)) (pos := ⟨22,20,22,26⟩))]) (orelse := []) (pos := ⟨21,16,22,26⟩))]) (orelse := [ (.AugAssign (target := (.Name (nm 2) ⟨24,16,24,17⟩)) (op := .Add) (value := (.Constant (.int 1) 0 ⟨24,21,24,22⟩)) (pos := ⟨24,16,24,22⟩)), sIn nm]) (pos := ⟨18,12,31,30⟩))]) (pos := ⟨13,12,31,30⟩))
noncomputable def sHd (nm : Nat → Str) : ExceptHandler := (.ExceptHandler (type := (some (.Name "IndexError" ⟨32,15,32,25⟩))) (name := none) (body := [ (.Expr (value := (.Call (func := (.Attribute (.Name (nm 4) ⟨33,12,33,19⟩) "extend" ⟨33,12,33,26⟩)) (args := [ (.Subscript (value := (.Name (nm 0) ⟨33,27,33,35⟩)) (slice := (.Slice (some (.Name (nm 2) ⟨33,36,33,37⟩)) none none ⟨33,36,33,38⟩)) (pos := ⟨33,27,33,39⟩))]) (keywords := []) (pos := ⟨33,12,33,40⟩))) (pos := ⟨33,12,33,40⟩)), (.Expr (value := (.Call (func := (.Attribute (.Name (nm 5) ⟨34,12,34,22⟩) "extend" ⟨34,12,34,29⟩)) (args := [ (.Subscript (value := (.Name (nm 1) ⟨34,30,34,36⟩)) (slice := (.Slice (some (.Name (nm 3) ⟨34,37,34,38⟩)) none none ⟨34,37,34,39⟩)) (pos := ⟨34,30,34,40⟩))]) (keywords := []) (pos := ⟨34,12,34,41⟩))) (pos := ⟨34,12,34,41⟩)), (.Break ⟨35,12,35,17⟩)]) (pos := ⟨32,8,35,17⟩))
noncomputable def sTry (nm : Nat → Str) : Stmt := (.Try (body := [ (.Assign (targets := [(.Name (nm 6) ⟨11,12,11,13⟩)]) (value := (.Subscript (value := (.Name (nm 0) ⟨11,16,11,24⟩)) (slice := (.Name (nm 2) ⟨11,25,11,26⟩)) (pos := ⟨11,16,11,27⟩))) (pos := ⟨11,12,11,27⟩)), (.Assign (targets := [(.Name (nm 7) ⟨12,12,12,13⟩)]) (value := (.Subscript (value := (.Name (nm 1) ⟨12,16,12,22⟩)) (slice := (.Name (nm 3) ⟨12,23,12,24⟩)) (pos := ⟨12,16,12,25⟩))) (pos := ⟨12,12,12,25⟩)), sIf nm]) (handlers := [ sHd nm]) (orelse := []) (finalbody := []) (pos := ⟨10,8,35,17⟩))
noncomputable def sAll (nm : Nat → Str) : List Stmt := [ (.Assign (targets := [(.Name (nm 2) ⟨6,4,6,5⟩), (.Name (nm 3) ⟨6,8,6,9⟩)]) (value := (.Constant (.int 0) 0 ⟨6,12,6,13⟩)) (pos := ⟨6,4,6,13⟩)), (.Assign (targets := [(.Name (nm 4) ⟨7,4,7,11⟩)]) (value := (.List [] ⟨7,14,7,16⟩)) (pos := ⟨7,4,7,16⟩)), (.Assign (targets := [(.Name (nm 5) ⟨8,4,8,14⟩)]) (value := (.List [] ⟨8,17,8,19⟩)) (pos := ⟨8,4,8,19⟩)), (.While (test := (.Constant (.bool true) 0 ⟨9,10,9,14⟩)) (body := [ sTry nm]) (orelse := []) (pos := ⟨9,4,35,17⟩)), (.Return (value := (some (.Tuple (elts := [(.Name (nm 4) ⟨36,12,36,19⟩), (.Name (nm 5) ⟨36,21,36,31⟩)]) (k := 0) (pos := ⟨36,11,36,32⟩)))) (pos := ⟨36,4,36,32⟩))]
section
variable {prog : Program} {w : World} {nm : Nat → Str} {base : Heap} {N : Nat} {A : Around} {fr : List Env} {env : Env} {sc : Scope} {B : Addr → Prop} {h₀ hs : Heap} {S : Sta} {s : Shared} {E : Value → Shared → Prop}
theorem Ix.back {A' A'' : Around} {e : Addr} {c : Value} (gn : Gn A fr base h₀ N env B) (x : Ix prog w nm fr env sc B hs s.heap S e c (rawInt env.locals))
    (k : ∀ h', Ix prog w nm fr env sc B hs h' S e c (rawInt env.locals) → E (.ref e) { s with heap := h' }) : notedBy (model prog w) A' env (cameBackBy (model prog w) A'' env E) (.ref e) s := by
  refine Ix.again gn x ?_
  obtain ⟨oe, vs, T, _, _, _, he, _, hd, h1', _⟩ := x.tr
  refine wpAny_bind (wpAny_field he hd h1' ?_)
  rw [if_neg (by simp)]
  rw [show env.frame = some env.locals from gn.frame]
  exact x.flight (some env.locals) gn fun h3 ix3 => k h3 ix3
theorem Ix.pass {A' : Around} {e : Addr} {c fl : Value} {what : String} {Q : Flow → Shared → Prop} (gn : Gn A fr base h₀ N env B) (x : Ix prog w nm fr env sc B hs s.heap S e c fl)
    (k : ∀ h', Ix prog w nm fr env sc B hs h' S e c (rawInt env.locals) → E (.ref e) { s with heap := h' }) : wpAny (model prog w) A' (PySem.passOn what (.ref e) env : Sem Flow) Q E s := by
  unfold PySem.passOn
  obtain ⟨oe, vs, T, _, _, _, he, _, hd, h1', _⟩ := x.tr
  refine wpAny_bind (wpAny_field he hd h1' ?_)
  rw [if_neg (by simp)]
  rw [show env.frame = some env.locals from gn.frame]
  refine wpAny_bind (m := setFlight _ _) (x.flight (some env.locals) gn fun h3 ix3 => wpAny_throw (k h3 ix3))
variable {mg mb : Str → Option Value}
theorem sIn_ok {A' : Around} {xs ys : List Str} {i j : Nat} {m u : List Str} {z : Str} {Q : Flow → Shared → Prop}
    (G : GlS nm base sc mg mb) (go : Go A fr base h₀ N env B true hs (fun _ => [])) (nc : ∀ a, Fm.at env (fun _ => True) a → a = env.locals) (x : Iv prog w nm fr env sc B hs s.heap S) (st : Stt xs ys i j m u S)
    (hfr : A'.frames = some (env :: fr)) (hh : A'.handled = none) (h6 : S 6 = some (.fr (.str z))) (h7 : S 7 = some (.fr (.str z)))
    (hx : xs.length ≤ 100) (hy : ys.length ≤ 100) (hi : i ≤ xs.length) (hj : j + 1 ≤ ys.length) (hxn : ∀ y, xs[i]? = some y → (y == z) = false) (hyn : ∀ y, ys[j + 1]? = some y → (y == z) = false)
    (hQ : ∀ h' tk S', Iv prog w nm fr env sc B hs h' S' → Stt xs ys i (j + 1) m u S' → Q .next (up s h' tk))
    (hE : ∀ h' tk S' e c, Ix prog w nm fr env sc B hs h' S' e c (rawInt env.locals) → Stt xs ys i (j + 1) m u S' → i = xs.length ∨ j + 1 = ys.length → E (.ref e) (up s h' tk)) :
    wpAny (model prog w) A' (exec (sIn nm) env) Q E s := by
  have hxc : i < xs.length ∨ i = xs.length := by omega
  have hyc : j + 1 < ys.length ∨ j + 1 = ys.length := by omega
  refine wpAny_Try_finally (wpAny_execs_cons ?_)
  rcases hxc with hxc | hxc
  · refine (while_no go.gn x G.nmd st.x st.i h6 (List.getElem?_eq_getElem hxc) (by omega) (hxn _ (List.getElem?_eq_getElem hxc))).wpE fun tk1 hn1 => ?_
    refine wpAny_execs_nil (wpAny_execs_nil ?_)
    refine wpAny_execs_cons ((aug_ok (s := { s with toks := tk1 }) (PP := fun h' S' => Iv prog w nm fr env sc B hs h' S') go.gn x G.nmd st.j fun u' s' hs' ⟨W, ru⟩ => ?_).wpF fun h2 tk2 hn2 x2 => ?_)
    · exact Iv.st go.gn (hs' ▸ x) G.inj (G.put 3 (by decide)) rfl (hs' ▸ ru)
    have st2 : Stt xs ys i (j + 1) m u (S.put 3 (.fr (.int ((j : Int) + 1)))) := st.putJ (j + 1)
    have h72 : (S.put 3 (.fr (.int ((j : Int) + 1)))) 7 = some (.fr (.str z)) := by exact (if_neg (by decide)).trans h7
    refine wpAny_execs_cons ?_
    rcases hyc with hyc | hyc
    · refine (while_no (s := (up s h2 tk2)) go.gn x2 G.nmd st2.y st2.j h72 (List.getElem?_eq_getElem hyc) (by omega) (hyn _ (List.getElem?_eq_getElem hyc))).wpE fun tk3 hn3 => ?_
      exact wpAny_execs_nil (hQ _ _ _ x2 st2)
    · refine while_out (s := (up s h2 tk2)) go.gn hfr (x2.cx (s := (up s h2 tk2)) go).ff go.frB x2 G.nmd st2.y st2.j hyc (by omega) (by rw [hh]; trivial) fun h3 tk3 e ix => ?_
      exact ix.back (s := (up s h3 tk3)) go.gn fun h4 ix4 => hE _ _ _ _ _ ix4 st2 (.inr hyc)
  · refine while_out go.gn hfr (x.cx go).ff go.frB x G.nmd st.x st.i hxc (by omega) (by rw [hh]; trivial) fun h1 tk1 e ix => ?_
    rw [hh] at ix
    refine Ix.again (s := (up s h1 tk1)) go.gn ix ⟨ref_ne_byPass e, ?_⟩
    refine Ix.again (s := (up s h1 tk1)) go.gn ix ?_
    refine Ix.flight (s := (up s h1 tk1)) none go.gn ix fun h2 ix2 => ?_
    refine wpAny_execs_cons ((aug_ok (s := (up s h2 tk1)) (PP := fun h' S' => Ix prog w nm fr env sc B hs h' S' e .none .none) go.gn ix2.iv G.nmd st.j fun u' s' hs' ⟨W, ru⟩ => ?_).wpF fun h3 tk3 hn3 ix3 => ?_)
    · exact Ix.st go.gn nc (hs' ▸ ix2) G.inj (G.put 3 (by decide)) rfl (hs' ▸ ru)
    have st2 : Stt xs ys i (j + 1) m u (S.put 3 (.fr (.int ((j : Int) + 1)))) := st.putJ (j + 1)
    have h72 : (S.put 3 (.fr (.int ((j : Int) + 1)))) 7 = some (.fr (.str z)) := by exact (if_neg (by decide)).trans h7
    refine wpAny_execs_cons ?_
    rcases hyc with hyc | hyc
    · refine (while_no (s := (up s h3 tk3)) go.gn ix3.iv G.nmd st2.y st2.j h72 (List.getElem?_eq_getElem hyc) (by omega) (hyn _ (List.getElem?_eq_getElem hyc))).wpE fun tk4 hn4 => ?_
      refine wpAny_execs_nil ?_
      exact Ix.pass (s := (up s _ tk4)) go.gn ix3 fun h5 ix5 => hE _ _ _ _ _ ix5 st2 (.inl hxc)
    · refine while_out (s := (up s h3 tk3)) go.gn hfr (ix3.iv.cx (s := (up s h3 tk3)) go).ff go.frB ix3.iv G.nmd st2.y st2.j hyc (by omega) ix3.noCtx fun h4 tk4 e2 ix4 => ?_
      exact ix4.back (s := (up s h4 tk4)) go.gn fun h5 ix5 => hE _ _ _ _ _ ix5 st2 (.inr hyc)
end
end Mine
end
section
set_option maxRecDepth 100000
open PySem PySem.W PyProof.Rows PySem.Calls
set_option autoImplicit false
namespace Mine
structure MgSt (xs ys T U : List Str) (i j : Nat) (m u : List Str) : Prop where
  hi : i ≤ xs.length
  hj : j ≤ ys.length
  hm : m.length ≤ i
  hu : u.length ≤ j
  ht : m ++ (mg (xs.drop i) (ys.drop j)).1 = T
  hv : u ++ (mg (xs.drop i) (ys.drop j)).2 = U
theorem mg_nil_left (ys : List Str) : mg [] ys = ([], ys) := by unfold mg; rfl
theorem mg_nil_right (xs : List Str) : mg xs [] = (xs, []) := by cases xs <;> (unfold mg; rfl)
section
variable {xs ys T U : List Str} {i j : Nat} {m u : List Str} {x y : Str}
theorem drop_at (h : xs[i]? = some x) : xs.drop i = x :: xs.drop (i + 1) := by
  obtain ⟨hi, e⟩ := List.getElem?_eq_some_iff.mp h
  rw [List.drop_eq_getElem_cons hi, e]
theorem MgSt.lt (g : MgSt xs ys T U i j m u) (hx : xs[i]? = some x) (hy : ys[j]? = some y) (h : ltS x y = true) : MgSt xs ys T U (i + 1) j (m ++ [x]) u := by
  have hi := (List.getElem?_eq_some_iff.mp hx).1
  have ht := g.ht
  have hv := g.hv
  rw [drop_at hx, drop_at hy] at ht hv
  unfold mg at ht hv
  rw [if_pos h, ← drop_at hy] at ht hv
  refine ⟨hi, g.hj, by rw [List.length_append]; exact Nat.succ_le_succ g.hm, g.hu, ?_, hv⟩
  rw [List.append_assoc]; exact ht
theorem MgSt.gt (g : MgSt xs ys T U i j m u) (hx : xs[i]? = some x) (hy : ys[j]? = some y) (h0 : ltS x y = false) (h : ltS y x = true) : MgSt xs ys T U i (j + 1) m (u ++ [y]) := by
  have hj := (List.getElem?_eq_some_iff.mp hy).1
  have ht := g.ht
  have hv := g.hv
  rw [drop_at hx, drop_at hy] at ht hv
  unfold mg at ht hv
  rw [if_neg (by rw [h0]; decide), if_pos h, ← drop_at hx] at ht hv
  refine ⟨g.hi, hj, g.hm, by rw [List.length_append]; exact Nat.succ_le_succ g.hu, ht, ?_⟩
  rw [List.append_assoc]; exact hv
theorem MgSt.eq (g : MgSt xs ys T U i j m u) (hx : xs[i]? = some x) (hy : ys[j]? = some y) (h0 : ltS x y = false) (h : ltS y x = false) : MgSt xs ys T U (i + 1) (j + 1) m u := by
  have hi := (List.getElem?_eq_some_iff.mp hx).1
  have hj := (List.getElem?_eq_some_iff.mp hy).1
  have ht := g.ht
  have hv := g.hv
  rw [drop_at hx, drop_at hy] at ht hv
  unfold mg at ht hv
  rw [if_neg (by rw [h0]; decide), if_neg (by rw [h]; decide)] at ht hv
  exact ⟨hi, hj, Nat.le_succ_of_le g.hm, Nat.le_succ_of_le g.hu, ht, hv⟩
theorem MgSt.end (g : MgSt xs ys T U i j m u) (h : i = xs.length ∨ j = ys.length) : m ++ xs.drop i = T ∧ u ++ ys.drop j = U := by
  have ht := g.ht
  have hv := g.hv
  rcases h with h | h
  · have e : xs.drop i = [] := List.drop_eq_nil_of_le (by omega)
    rw [e] at ht hv ⊢
    rw [mg_nil_left] at ht hv
    exact ⟨ht, hv⟩
  · have e : ys.drop j = [] := List.drop_eq_nil_of_le (by omega)
    rw [e] at ht hv ⊢
    rw [mg_nil_right] at ht hv
    exact ⟨ht, hv⟩
theorem rising_next : ∀ {xs : List Str} {i : Nat} {x y : Str}, rising xs = true → xs[i]? = some x → xs[i + 1]? = some y → (y == x) = false
  | [], _, _, _, _, h, _ => by simp at h
  | a :: r, 0, x, y, h, hx, hy => by
    simp at hx hy; subst hx
    have := (rising_all h).1 y (List.mem_of_getElem? hy)
    exact beq_false_of_ne fun e => ltS_ne this e.symm
  | a :: r, i + 1, x, y, h, hx, hy => by
    simp at hx hy
    exact rising_next (rising_all h).2 hx hy
end
section
variable {prog : Program} {w : World} {nm : Nat → Str} {base : Heap} {N : Nat} {A : Around} {fr : List Env} {env : Env} {sc : Scope} {B : Addr → Prop} {h₀ hs : Heap} {S : Sta} {s : Shared} {E : Value → Shared → Prop}
variable {mg' mb : Str → Option Value} {xs ys T U : List Str}
theorem put_get {S : Sta} {i : Nat} {sl : Slot} : S.put i sl i = some sl := if_pos rfl
theorem put_ne {S : Sta} {i k : Nat} {sl : Slot} (h : k ≠ i) : S.put i sl k = S k := if_neg h
theorem sIf_ok {A' : Around} {i j : Nat} {m u : List Str} {x y : Str} {Q : Flow → Shared → Prop}
    (G : GlS nm base sc mg' mb) (go : Go A fr base h₀ N env B true hs (fun _ => [])) (nc : ∀ a, Fm.at env (fun _ => True) a → a = env.locals) (iv : Iv prog w nm fr env sc B hs s.heap S) (st : Stt xs ys i j m u S) (g : MgSt xs ys T U i j m u)
    (hfr : A'.frames = some (env :: fr)) (hh : A'.handled = none) (h6 : S 6 = some (.fr (.str x))) (h7 : S 7 = some (.fr (.str y)))
    (hx : xs.length ≤ 100) (hy : ys.length ≤ 100) (rx : rising xs = true) (ry : rising ys = true) (hxi : xs[i]? = some x) (hyj : ys[j]? = some y)
    (hQ : ∀ h' tk S' i' j' m' u', Iv prog w nm fr env sc B hs h' S' → Stt xs ys i' j' m' u' S' → MgSt xs ys T U i' j' m' u' → i + j < i' + j' → Q .next (up s h' tk))
    (hE : ∀ h' tk S' i' j' m' u' e c, Ix prog w nm fr env sc B hs h' S' e c (rawInt env.locals) → Stt xs ys i' j' m' u' S' → MgSt xs ys T U i' j' m' u' → i' = xs.length ∨ j' = ys.length → E (.ref e) (up s h' tk)) :
    wpAny (model prog w) A' (exec (sIf nm) env) Q E s := by
  have hi := (List.getElem?_eq_some_iff.mp hxi).1
  have hj := (List.getElem?_eq_some_iff.mp hyj).1
  refine wpAny_If (wpAny_isTrue_Compare1 (iv.rdK go.gn G.nmd h6 fun v1 W1 tk1 hn1 r1 => ?_) rfl)
  refine Iv.rdK (s := { s with toks := tk1 }) go.gn iv G.nmd h7 fun v2 W2 tk2 hn2 r2 => ?_
  refine R.strE r1 fun t1 => ?_
  refine R.strE r2 fun t2 => ?_
  refine PyProof.Rows.lt_str (wpAny_truthy_bool ?_)
  cases h : ltS x y with
  | true =>
    have h' : decide (x.cps.toList < y.cps.toList) = true := h
    rw [if_pos h']
    have g2 := g.lt hxi hyj h
    refine wpAny_execs_cons ((app_ok (s := { s with toks := tk2 }) go.gn iv G.nmd st.m h6 rfl (by rw [List.length_map]; have := g.hm; omega)).wpF fun h3 tk3 hn3 iv3 => ?_)
    have em : m.map D.str ++ [.str x] = (m ++ [x]).map D.str := by rw [List.map_append]; rfl
    rw [em] at iv3
    have st3 := st.putM (m ++ [x])
    refine wpAny_execs_cons ((aug_ok (s := (up s h3 tk3)) (PP := fun h' S' => Iv prog w nm fr env sc B hs h' S') go.gn iv3 G.nmd st3.i fun u' s' hs' ⟨W, ru⟩ => ?_).wpF fun h4 tk4 hn4 iv4 => ?_)
    · exact Iv.st go.gn (hs' ▸ iv3) G.inj (G.put 2 (by decide)) rfl (hs' ▸ ru)
    have st4 := st3.putI (i + 1)
    have h64 : ((S.put 4 (.li ((m ++ [x]).map .str))).put 2 (.fr (.int ((i : Int) + 1)))) 6 = some (.fr (.str x)) := by rw [put_ne (by decide), put_ne (by decide)]; exact h6
    refine wpAny_execs_cons ?_
    have hc : i + 1 < xs.length ∨ i + 1 = xs.length := by omega
    rcases hc with hc | hc
    · refine (while_no (s := (up s h4 tk4)) go.gn iv4 G.nmd st4.x st4.i h64 (List.getElem?_eq_getElem hc) (by omega) (rising_next rx hxi (List.getElem?_eq_getElem hc))).wpE fun tk5 hn5 => ?_
      exact wpAny_execs_nil (hQ _ _ _ _ _ _ _ iv4 st4 g2 (by omega))
    · exact while_out (s := (up s h4 tk4)) go.gn hfr (iv4.cx (s := (up s h4 tk4)) go).ff go.frB iv4 G.nmd st4.x st4.i hc (by omega) (by rw [hh]; trivial) fun h5 tk5 e ix => hE _ _ _ _ _ _ _ _ _ ix st4 g2 (.inl hc)
  | false =>
    have h' : decide (x.cps.toList < y.cps.toList) = false := h
    rw [if_neg (by rw [h']; decide)]
    refine wpAny_execs_cons (wpAny_If (wpAny_isTrue_Compare1 (Iv.rdK (s := { s with toks := tk2 }) go.gn iv G.nmd h6 fun v1 W1 tk1 hn1 r1 => ?_) rfl))
    refine Iv.rdK (s := { s with toks := tk1 }) go.gn iv G.nmd h7 fun v2 W2 tk2 hn2 r2 => ?_
    refine R.strE r1 fun t1 => ?_
    refine R.strE r2 fun t2 => ?_
    refine P.gt_str (wpAny_truthy_bool ?_)
    cases hg : ltS y x with
    | true =>
      have h' : decide (y.cps.toList < x.cps.toList) = true := hg
      rw [if_pos h']
      have g2 := g.gt hxi hyj h hg
      refine wpAny_execs_cons ((app_ok (s := { s with toks := tk2 }) go.gn iv G.nmd st.u h7 rfl (by rw [List.length_map]; have := g.hu; omega)).wpF fun h3 tk3 hn3 iv3 => ?_)
      have em : u.map D.str ++ [.str y] = (u ++ [y]).map D.str := by rw [List.map_append]; rfl
      rw [em] at iv3
      have st3 := st.putU (u ++ [y])
      refine wpAny_execs_cons ((aug_ok (s := (up s h3 tk3)) (PP := fun h' S' => Iv prog w nm fr env sc B hs h' S') go.gn iv3 G.nmd st3.j fun u' s' hs' ⟨W, ru⟩ => ?_).wpF fun h4 tk4 hn4 iv4 => ?_)
      · exact Iv.st go.gn (hs' ▸ iv3) G.inj (G.put 3 (by decide)) rfl (hs' ▸ ru)
      have st4 := st3.putJ (j + 1)
      have h74 : ((S.put 5 (.li ((u ++ [y]).map .str))).put 3 (.fr (.int ((j : Int) + 1)))) 7 = some (.fr (.str y)) := by rw [put_ne (by decide), put_ne (by decide)]; exact h7
      refine wpAny_execs_cons ?_
      have hc : j + 1 < ys.length ∨ j + 1 = ys.length := by omega
      rcases hc with hc | hc
      · refine (while_no (s := (up s h4 tk4)) go.gn iv4 G.nmd st4.y st4.j h74 (List.getElem?_eq_getElem hc) (by omega) (rising_next ry hyj (List.getElem?_eq_getElem hc))).wpE fun tk5 hn5 => ?_
        exact wpAny_execs_nil (wpAny_execs_nil (hQ _ _ _ _ _ _ _ iv4 st4 g2 (by omega)))
      · exact while_out (s := (up s h4 tk4)) go.gn hfr (iv4.cx (s := (up s h4 tk4)) go).ff go.frB iv4 G.nmd st4.y st4.j hc (by omega) (by rw [hh]; trivial) fun h5 tk5 e ix => hE _ _ _ _ _ _ _ _ _ ix st4 g2 (.inr hc)
    | false =>
      have h' : decide (y.cps.toList < x.cps.toList) = false := hg
      rw [if_neg (by rw [h']; decide)]
      have g2 := g.eq hxi hyj h hg
      have e : x = y := leS_antisymm (by unfold leS; exact Bool.eq_false_iff.mpr (Bool.eq_false_iff.mp hg)) (by unfold leS; exact Bool.eq_false_iff.mpr (Bool.eq_false_iff.mp h))
      subst e
      refine wpAny_execs_cons ((aug_ok (s := { s with toks := tk2 }) (PP := fun h' S' => Iv prog w nm fr env sc B hs h' S') go.gn iv G.nmd st.i fun u' s' hs' ⟨W, ru⟩ => ?_).wpF fun h4 tk4 hn4 iv4 => ?_)
      · exact Iv.st go.gn (hs' ▸ iv) G.inj (G.put 2 (by decide)) rfl (hs' ▸ ru)
      have st4 := st.putI (i + 1)
      have h64 : (S.put 2 (.fr (.int ((i : Int) + 1)))) 6 = some (.fr (.str x)) := by rw [put_ne (by decide)]; exact h6
      have h74 : (S.put 2 (.fr (.int ((i : Int) + 1)))) 7 = some (.fr (.str x)) := by rw [put_ne (by decide)]; exact h7
      refine wpAny_execs_cons ?_
      refine sIn_ok (s := (up s h4 tk4)) G go nc iv4 st4 hfr hh h64 h74 hx hy hi hj (fun z hz => rising_next rx hxi hz) (fun z hz => rising_next ry hyj hz) (fun h5 tk5 S5 iv5 st5 => ?_) fun h5 tk5 S5 e c ix5 st5 hor => ?_
      · exact wpAny_execs_nil (wpAny_execs_nil (hQ _ _ _ _ _ _ _ iv5 st5 g2 (by omega)))
      · exact hE _ _ _ _ _ _ _ _ _ ix5 st5 g2 hor
end
end Mine
end
section
set_option maxRecDepth 100000
open PySem PySem.W PyProof.Rows PySem.Calls
set_option autoImplicit false
namespace Mine
section
variable {prog : Program} {w : World} {nm : Nat → Str} {base : Heap} {N : Nat} {A : Around} {fr : List Env} {env : Env} {sc : Scope} {B : Addr → Prop} {h₀ hs : Heap} {S : Sta} {s : Shared} {E : Value → Shared → Prop}
variable {mg' mb : Str → Option Value} {xs ys T U : List Str}
theorem sTry_ok {A' : Around} {i j : Nat} {m u : List Str} {Q : Flow → Shared → Prop}
    (G : GlS nm base sc mg' mb) (go : Go A fr base h₀ N env B true hs (fun _ => [])) (nc : ∀ a, Fm.at env (fun _ => True) a → a = env.locals) (iv : Iv prog w nm fr env sc B hs s.heap S) (st : Stt xs ys i j m u S) (g : MgSt xs ys T U i j m u)
    (hfr : A'.frames = some (env :: fr)) (hh : A'.handled = none)
    (hx : xs.length ≤ 100) (hy : ys.length ≤ 100) (rx : rising xs = true) (ry : rising ys = true)
    (hQ : ∀ h' tk S' i' j' m' u', Iv prog w nm fr env sc B hs h' S' → Stt xs ys i' j' m' u' S' → MgSt xs ys T U i' j' m' u' → i + j < i' + j' → Q .next (up s h' tk))
    (hB : ∀ h' tk S', Iv prog w nm fr env sc B hs h' S' → S' 4 = some (.li (T.map .str)) → S' 5 = some (.li (U.map .str)) → Q .brk (up s h' tk)) :
    wpAny (model prog w) A' (exec (sTry nm) env) Q E s := by
  have caught : ∀ h' tk S' i' j' m' u' e c fl, Ix prog w nm fr env sc B hs h' S' e c fl → Stt xs ys i' j' m' u' S' → MgSt xs ys T U i' j' m' u' → i' = xs.length ∨ j' = ys.length →
      wpAny (model prog w) A' (setFlight (.ref e) none) (fun _ s₃ => wpAny (model prog w) A' (handleBy (.ref e) env [sHd nm]) Q E s₃) E (up s h' tk) := by
    intro h' tk S' i' j' m' u' e c fl ix st' g' hor
    refine ix.flight (s := (up s h' tk)) none go.gn fun h1 ix1 => ?_
    refine (handler_ok (s := (up s h1 tk)) G go ix1 st' hx hy (by have := g'.hm; have := g'.hi; omega) (by have := g'.hu; have := g'.hj; omega) rfl rfl).wp fun f h2 tk2 hn2 q => ?_
    obtain ⟨rfl, S2, iv2, e4, e5⟩ := q
    obtain ⟨a, b⟩ := g'.end hor
    rw [a] at e4; rw [b] at e5
    exact hB _ _ _ iv2 e4 e5
  have fresh : ∀ h₁ (tk₁ : Nat) S₁ i' j' m' u' h' tk e, Iv prog w nm fr env sc B hs h₁ S₁ → Stt xs ys i' j' m' u' S₁ → MgSt xs ys T U i' j' m' u' → i' = xs.length ∨ j' = ys.length → XN h₁ h' e (ctxOf A'.handled) →
      wpAny (model prog w) A' (noteFrame (.ref e) env) (fun _ s₂ => wpAny (model prog w) A' (setFlight (.ref e) none) (fun _ s₃ => wpAny (model prog w) A' (handleBy (.ref e) env [sHd nm]) Q E s₃) E s₂) E (up s h' tk) := by
    intro h₁ tk₁ S₁ i' j' m' u' h' tk e iv₁ st₁ g₁ hor xn
    exact Iv.note (s := (up s h₁ tk₁)) go.gn hfr (iv₁.cx (s := (up s h₁ tk₁)) go).ff go.frB iv₁ xn fun h2 ix => caught _ _ _ _ _ _ _ _ _ _ ix st₁ g₁ hor
  have hi := g.hi
  have hj := g.hj
  refine wpAny_Try_except (wpAny_execs_cons ?_)
  have hxc : i < xs.length ∨ i = xs.length := by omega
  rcases hxc with hxc | hxc
  · have hxi := List.getElem?_eq_getElem hxc
    refine (asg_in go.gn iv G.nmd G.inj (G.put 6 (by decide)) st.x st.i hxi (by omega)).wpF fun h1 tk1 hn1 iv1 => ?_
    have st1 := st.put (k := 6) (by omega) (.fr (.str xs[i]))
    refine wpAny_execs_cons ?_
    have hyc : j < ys.length ∨ j = ys.length := by omega
    rcases hyc with hyc | hyc
    · have hyj := List.getElem?_eq_getElem hyc
      refine (asg_in (s := (up s h1 tk1)) go.gn iv1 G.nmd G.inj (G.put 7 (by decide)) st1.y st1.j hyj (by omega)).wpF fun h2 tk2 hn2 iv2 => ?_
      have st2 := st1.put (k := 7) (by omega) (.fr (.str ys[j]))
      refine wpAny_execs_cons (sIf_ok (s := (up s h2 tk2)) G go nc iv2 st2 g hfr hh (by rw [put_ne (by decide), put_get]) put_get hx hy rx ry hxi hyj (fun h3 tk3 S3 i3 j3 m3 u3 iv3 st3 g3 hlt => ?_) fun h3 tk3 S3 i3 j3 m3 u3 e c ix3 st3 g3 hor => ?_)
      · exact wpAny_execs_nil (wpAny_execs_nil (hQ _ _ _ _ _ _ _ iv3 st3 g3 hlt))
      · exact Ix.again (s := (up s h3 tk3)) go.gn ix3 (caught _ _ _ _ _ _ _ _ _ _ ix3 st3 g3 hor)
    · exact asg_out (s := (up s h1 tk1)) go.gn iv1 G.nmd st1.y st1.j hyc (by omega) (by rw [hh]; trivial) fun h' tk e xn => fresh _ tk1 _ _ _ _ _ _ _ _ iv1 st1 g (.inr hyc) xn
  · exact asg_out go.gn iv G.nmd st.x st.i hxc (by omega) (by rw [hh]; trivial) fun h' tk e xn => fresh _ s.toks _ _ _ _ _ _ _ _ iv st g (.inl hxc) xn
theorem sLoop_ok {A' : Around} {p p2 : Pos} {i j : Nat} {m u : List Str}
    (G : GlS nm base sc mg' mb) (go : Go A fr base h₀ N env B true hs (fun _ => [])) (nc : ∀ a, Fm.at env (fun _ => True) a → a = env.locals) (iv : Iv prog w nm fr env sc B hs s.heap S) (st : Stt xs ys i j m u S) (g : MgSt xs ys T U i j m u)
    (hfr : A'.frames = some (env :: fr)) (hh : A'.handled = none)
    (hx : xs.length ≤ 100) (hy : ys.length ≤ 100) (rx : rising xs = true) (ry : rising ys = true) :
    Ok (model prog w) A' (exec (.While (.Constant (.bool true) 0 p) [sTry nm] [] p2) env) s (fun f h' => f = .next ∧ ∃ S', Iv prog w nm fr env sc B hs h' S' ∧ S' 4 = some (.li (T.map .str)) ∧ S' 5 = some (.li (U.map .str))) := by
  refine wpAny_While (codeAny_whileLoop (fun n s' => ∃ h tk S i j m u, s' = (up s h tk) ∧ Iv prog w nm fr env sc B hs h S ∧ Stt xs ys i j m u S ∧ MgSt xs ys T U i j m u ∧ n + (i + j) = xs.length + ys.length) ?_ (xs.length + ys.length - (i + j)) ?_)
  · rintro n s' ⟨h, tk, S, i, j, m, u, rfl, iv, st, g, hn⟩
    refine wpAny_isTrue_value (wpAny_Constant_bool (wpAny_truthy_bool ?_))
    rw [if_pos rfl]
    refine wpAny_execs_cons (sTry_ok (s := (up s h tk)) G go nc iv st g hfr hh hx hy rx ry (fun h' tk' S' i' j' m' u' iv' st' g' hlt => ?_) fun h' tk' S' iv' e4 e5 => ?_)
    · have := g'.hi
      have := g'.hj
      exact wpAny_execs_nil ⟨xs.length + ys.length - (i' + j'), by omega, h', tk', S', i', j', m', u', rfl, iv', st', g', by omega⟩
    · exact ⟨_, _, rfl, rfl, S', iv', e4, e5⟩
  · have := g.hi
    have := g.hj
    exact ⟨s.heap, s.toks, S, i, j, m, u, rfl, iv, st, g, by omega⟩
end
end Mine
end
section
set_option maxRecDepth 100000
open PySem PySem.W PyProof.Rows PySem.Calls
set_option autoImplicit false
namespace Mine
section
variable {prog : Program} {w : World} {nm fn : Nat → Str} {base : Heap} {N : Nat} {A : Around} {fr : List Env} {env : Env} {sc : Scope} {B : Addr → Prop} {h₀ hs : Heap} {S : Sta} {s : Shared} {E : Value → Shared → Prop}
variable {mg' mb : Str → Option Value} {xs ys : List Str}
theorem Iv.own {i : Nat} {pi p pe : Pos} (am : Am prog w nm fn [] base N) (go : Go A fr base h₀ N env B true hs (fun _ => [])) (iv : Iv prog w nm fr env sc B hs s.heap S) (tk : 0 ≤ s.toks) (hp : putOk sc (nm i) = true) :
    Ok (model prog w) (A.deeper env) (exec (.Assign [.Name (nm i) pi] (.List [] pe) p) env) s (fun f h' => f = .next ∧ Iv prog w nm fr env sc B hs h' (S.put i (.li []))) := by
  obtain ⟨B', σ, ad, hB, hN, y, m⟩ := iv
  have go' := go.move m
  have go2 : Go A fr base h₀ N env B' true s.heap ad := ⟨go'.gn.grow hB, go'.keep, go'.nw, go'.fmN⟩
  have he : exS nm fn [] sc true (5 + 1) (.own i pi (.list .nil pe) p) S = some (.next, S.put i (.li [])) := by
    show (if (putK nm sc i && true) = true then some (Fl.next, S.put i (.li [])) else none) = _
    rw [show putK nm sc i = true from hp]; rfl
  refine (ex_own am he go2 y tk).mono fun f h' q => ?_
  obtain ⟨σ', ad', z, mv, fo⟩ := q
  cases fo
  exact ⟨rfl, B', σ', ad', hB, hN, z, m.trans mv⟩
theorem sAll_ok {σ : Str → Option Value}
    (G : GlS nm base sc mg' mb) (am : Am prog w nm fn [] base N) (go : Go A fr base h₀ N env B true s.heap (fun _ => [])) (x : SI prog w nm env sc B s.heap S σ (fun _ => [])) (tk : 0 ≤ s.toks)
    (h0 : S 0 = some (.fr (.lst (xs.map .str)))) (h1 : S 1 = some (.fr (.lst (ys.map .str)))) (hc : ∀ x ∈ sc.names, x.2 ≠ .cell)
    (hx : xs.length ≤ 100) (hy : ys.length ≤ 100) (rx : rising xs = true) (ry : rising ys = true) :
    Ok (model prog w) (A.deeper env) (execs (sAll nm) env) s (fun f h' => ∃ S', ExP prog w nm true fr env sc B s.heap (fun _ => []) (.ret (.tup [.lst ((lessS xs ys).map .str), .lst ((lessS ys xs).map .str)])) S' f h') := by
  have nc : ∀ a, Fm.at env (fun _ => True) a → a = env.locals := fun a q => by
    rcases q with q | ⟨y, _, hk, _⟩
    · exact q
    · unfold Env.kindOf at hk
      rw [x.sc] at hk
      exact absurd rfl (hc _ (mem_of_lookup hk))
  have iv : Iv prog w nm fr env sc B s.heap s.heap S := ⟨B, σ, _, fun _ q => q, fun _ q => .inl q, x, Mv.refl⟩
  have hd := go.gn.cx.hd
  refine wpAny_execs_cons (wpAny_Assign_two (wpAny_Constant_int ?_))
  refine wpAny_assign_Name ((Iv.st (s := { s with toks := s.toks + 1 }) go.gn iv G.inj (G.put 2 (by decide)) rfl (R.int (W := fun _ => False) 0 _)).wp fun _ h2 tk2 hn2 iv2 => ?_)
  refine wpAny_assign_Name ((Iv.st (s := (up s h2 tk2)) go.gn iv2 G.inj (G.put 3 (by decide)) rfl (R.int (W := fun _ => False) 0 _)).wp fun _ h3 tk3 hn3 iv3 => ?_)
  have t3 : 0 ≤ tk3 := by have : s.toks + 1 ≤ tk2 := hn2; have : tk2 ≤ tk3 := hn3; omega
  refine wpAny_execs_cons ((Iv.own (s := (up s h3 tk3)) am go iv3 t3 (G.put 4 (by decide))).wpF fun h4 tk4 hn4 iv4 => ?_)
  have t4 : 0 ≤ tk4 := Nat.le_trans t3 hn4
  refine wpAny_execs_cons ((Iv.own (s := (up s h4 tk4)) am go iv4 t4 (G.put 5 (by decide))).wpF fun h5 tk5 hn5 iv5 => ?_)
  have t5 : 0 ≤ tk5 := Nat.le_trans t4 hn5
  have st : Stt xs ys 0 0 [] [] ((((S.put 2 (.fr (.int 0))).put 3 (.fr (.int 0))).put 4 (.li [])).put 5 (.li [])) := by
    constructor
    · rw [put_ne (by decide), put_ne (by decide), put_ne (by decide), put_ne (by decide)]; exact h0
    · rw [put_ne (by decide), put_ne (by decide), put_ne (by decide), put_ne (by decide)]; exact h1
    · rw [put_ne (by decide), put_ne (by decide), put_ne (by decide), put_get]; rfl
    · rw [put_ne (by decide), put_ne (by decide), put_get]; rfl
    · rw [put_ne (by decide), put_get]; rfl
    · rw [put_get]; rfl
  have g : MgSt xs ys (lessS xs ys) (lessS ys xs) 0 0 [] [] := by
    have := mg_eq xs ys rx ry
    refine ⟨Nat.zero_le _, Nat.zero_le _, Nat.le_refl _, Nat.le_refl _, ?_, ?_⟩ <;> rw [List.drop_zero, List.drop_zero, this, List.nil_append]
  refine wpAny_execs_cons ((sLoop_ok (s := (up s h5 tk5)) G go nc iv5 st g (Around.frames_deeper go.gn.cx.frs) hd hx hy rx ry).wp fun f h6 tk6 hn6 q => ?_)
  obtain ⟨rfl, S6, iv6, e4, e5⟩ := q
  have t6 : 0 ≤ tk6 := Nat.le_trans t5 hn6
  obtain ⟨B', σ6, ad6, hB, hN, y, m⟩ := iv6
  obtain ⟨y1, m1⟩ := freeze (tp := true) (fr := fr) (s := (up s h6 tk6)) y e4
  have e5' : (S6.put 4 (.fr (Slot.li ((lessS xs ys).map .str)).d)) 5 = some (.li ((lessS ys xs).map .str)) := by rw [put_ne (by decide)]; exact e5
  obtain ⟨y2, m2⟩ := freeze (tp := true) (fr := fr) (s := (up s h6 tk6)) y1 e5'
  have mm := (m.trans m1).trans m2
  have go' := go.move mm
  have go2 : Go A fr base h₀ N env B' true h6 _ := ⟨go'.gn.grow hB, go'.keep, go'.nw, go'.fmN⟩
  have he : exS nm fn [] sc true (5 + 1) (.ret (.tup (.cons (.var 4 ⟨36,12,36,19⟩) (.cons (.var 5 ⟨36,21,36,31⟩) .nil)) 0 ⟨36,11,36,32⟩) ⟨36,4,36,32⟩) ((S6.put 4 (.fr (Slot.li ((lessS xs ys).map .str)).d)).put 5 (.fr (Slot.li ((lessS ys xs).map .str)).d)) =
      some (.ret (.tup [.lst ((lessS xs ys).map .str), .lst ((lessS ys xs).map .str)]), ((S6.put 4 (.fr (Slot.li ((lessS xs ys).map .str)).d)).put 5 (.fr (Slot.li ((lessS ys xs).map .str)).d))) := by
    rfl
  refine wpAny_execs_cons ((ex_ret (s := (up s h6 tk6)) am he go2 y2 t6).wp fun f h7 tk7 hn7 q => ?_)
  obtain ⟨σ7, ad7, z, mv, fo⟩ := q
  cases fo with
  | ret r =>
    refine ⟨_, _, rfl, _, σ7, ad7, z.shrink hB, mm.trans mv, .ret (r.mono (fun _ _ _ e => e) fun a q => .inl (q.imp (hB a) id))⟩
end
noncomputable def sTbl : List Str := [Str.ofString "expected", Str.ofString "actual", Str.ofString "i", Str.ofString "j", Str.ofString "missing", Str.ofString "unexpected", Str.ofString "e", Str.ofString "a"]
noncomputable def sNm : Nat → Str := nmOf sTbl
theorem sNm_inj : ∀ i j, sNm i = sNm j → i = j := nmOf_inj (by decide +kernel) (by decide +kernel)
theorem sNm_nmd : ∀ i, (sNm i == "__debug__") = false ∧ (sNm i == "__classdict__") = false := fun i => ⟨nmOf_ne (by decide +kernel) (by decide +kernel) i, nmOf_ne (by decide +kernel) (by decide +kernel) i⟩
section
variable {prog : Program} {w : World} {base : Heap} {mg' mb : Str → Option Value} {nm fn : Nat → Str}
theorem bStr {δ : Type} {A B : Option (List Str)} {f : List Str → List Str → Option δ} {d : δ} {G : Prop} (h : (match A, B with | some x, some y => f x y | _, _ => none) = some d) (k : ∀ x y, A = some x → B = some y → f x y = some d → G) : G := by
  cases A with
  | none => exact optE h
  | some x => cases B with
    | none => exact optE h
    | some y => exact k x y rfl rfl h
@[elab_as_elim] theorem sldGE {ds : List D} {r : D} {m : List D → D → Prop} (h : sldG ds = some r) (k : ∀ xs ys : List Str, rising xs = true → rising ys = true → xs.length ≤ 100 → ys.length ≤ 100 → m [.lst (xs.map .str), .lst (ys.map .str)] (.tup [.lst ((lessS xs ys).map .str), .lst ((lessS ys xs).map .str)])) : m ds r := by
  cases ds with
  | nil => exact optE h
  | cons a ds =>
  cases a with
  | lst a =>
    cases ds with
    | nil => exact optE h
    | cons b ds =>
    cases b with
    | lst b =>
      cases ds with
      | nil =>
        refine bStr h fun xs ys h1 h2 h => ?_
        rw [strsOf_eq h1, strsOf_eq h2]
        exact ifE h fun c h => someE h (k xs ys (I.and3 c).1 (I.and3 c).2.1 (of_decide_eq_true (I.and3 c).2.2).1 (of_decide_eq_true (I.and3 c).2.2).2)
      | cons _ _ => exact optE h
    | _ => exact optE h
  | _ => exact optE h
theorem sld_con {d : DefRec} {fa : Addr} {o : Obj} {pm code doc : Value} (G : Glb nm fn base mg' mb) (ie : mg' "IndexError" = none ∧ mb "IndexError" = some (.type "IndexError"))
    (ho : base.get? fa = some o) (hod : o.data = .func (docDef d.name d.params d.body d.scope pm code doc)) (hcd : base.CodeRec code d.name)
    (hb : d.body = sAll sNm) (hk : d.scope.kind = .function) (hnd : (d.scope.names.map (·.1)).Nodup) (hfr : ∀ x ∈ d.scope.names, x.2 ≠ .free ∧ x.2 ≠ .cell) (hco : d.scope.isCoroutine = false) (hge : d.scope.isGenerator = false)
    (hput : ∀ k, k < 8 → putOk d.scope (sNm k) = true) (hisg : isG d.scope "IndexError" = true)
    (hbind : ∀ (pm code doc : Value) (us : List Value), us.length = 2 → bindArgs (docDef d.name d.params d.body d.scope pm code doc) ⟨us, []⟩ = pure (([0, 1].map sNm).zip us)) : Con prog w base sldFE fa := by
  have am : Am prog w sNm fn [] base 5 := ⟨sNm_nmd, sNm_inj, G.fnd, fun b => ⟨mg', mb, G.g, G.b, G.bi b⟩, ⟨mg', mb, G.g, G.b, G.isS⟩, ⟨mg', mb, G.g, G.b, G.isI⟩, ⟨mg', mb, G.g, G.b, G.st⟩, ⟨mg', mb, G.g, G.b, G.by'⟩, mg', G.g, fun f fe h => optE h⟩
  have Gs : GlS sNm base d.scope mg' mb := ⟨sNm_nmd, sNm_inj, G.g, G.b, ie, hisg, hput⟩
  have F : Fun prog w sNm fn d.name d.params d.body d.scope (rawsOf d.body) [0, 1] (pdN 2) :=
    ⟨rawsOf_py _ _ _, by decide, by decide +kernel, hk, hnd, fun x hx => (hfr x hx).1, fun i hi => hput i (by simp at hi; omega), hco, hge, fun pm code doc => bind_plain 2 rfl (hbind pm code doc)⟩
  refine con_gen (N := 5) F ho hod hcd G.lim rfl fun ds r hg => ?_
  refine sldGE hg fun xs ys e1 e2 e3 e4 => ?_
  refine ⟨[.lst (xs.map .str), .lst (ys.map .str)], rfl, rfl, fun A fr env B h₀ s σ go x tk => ?_⟩
  rw [hb]
  exact sAll_ok Gs am go x tk rfl rfl (fun y hy => (hfr y hy).2) e3 e4 e1 e2
end
end Mine
end
section
set_option maxRecDepth 100000
open PySem PySem.W PyProof.Rows
set_option autoImplicit false
namespace Mine.L2
abbrev pw : Program := PySem.Challenge.pw_rt0064_02
noncomputable def tbl : List Str := [Str.ofString "path", Str.ofString "kind", Str.ofString "a", Str.ofString "p", Str.ofString "sep", Str.ofString "b", Str.ofString "i", Str.ofString "head", Str.ofString "text", Str.ofString "script", Str.ofString "cells", Str.ofString "k", Str.ofString "x", Str.ofString "pool", Str.ofString "texts", Str.ofString "arrows", Str.ofString "cell", Str.ofString "rest", Str.ofString "place", Str.ofString "goal", Str.ofString "forms", Str.ofString "sign", Str.ofString "told", Str.ofString "lost", Str.ofString "ring", Str.ofString "tops", Str.ofString "at", Str.ofString "folders", Str.ofString "names", Str.ofString "goals", Str.ofString "m", Str.ofString "name", Str.ofString "turn", Str.ofString "left", Str.ofString "way"]
noncomputable def sc0 : Scope := ⟨.function, [(".0", .local), ("k", .local), ("cells", .free), ("pool", .free)], false, false, []⟩
noncomputable def sc1 : Scope := ⟨.function, [(".0", .local), ("sign", .local), ("forms", .free), ("kind", .free)], false, false, []⟩
noncomputable def sc2 : Scope := ⟨.function, [(".0", .local), ("k", .local), ("arrows", .free), ("lost", .free)], false, false, []⟩
noncomputable def sc3 : Scope := ⟨.function, [(".0", .local), ("k", .local), ("lost", .free), ("told", .free)], false, false, []⟩
noncomputable def sc4 : Scope := ⟨.function, [(".0", .local), ("m", .local), ("names", .free)], false, false, []⟩
noncomputable def sc5 : Scope := ⟨.function, [(".0", .local), ("k", .local), ("arrows", .free), ("names", .free)], false, false, []⟩
noncomputable def sc6 : Scope := ⟨.function, [(".0", .local), ("name", .local)], false, false, []⟩
noncomputable def sc7 : Scope := ⟨.function, [(".0", .local), ("text", .local), ("_law_written", .globalImplicit), ("kind", .free)], false, false, []⟩
noncomputable def sc8 : Scope := ⟨.function, [(".0", .local), ("text", .local), ("_law_told", .globalImplicit), ("kind", .free)], false, false, []⟩
noncomputable def bFfspath : Bl := (.cons (.asg 1 ⟨69,4,69,8⟩ (.bi .type ⟨69,11,69,15⟩ (.cons (.var 0 ⟨69,16,69,20⟩) .nil) ⟨69,11,69,21⟩) ⟨69,4,69,21⟩)
  (.cons (.ite (.isSB (.var 1 ⟨70,18,70,22⟩) ⟨70,7,70,17⟩ ⟨70,25,70,28⟩ ⟨70,30,70,35⟩ 0 ⟨70,24,70,36⟩ ⟨70,7,70,37⟩) (.cons (.ret (.var 0 ⟨71,15,71,19⟩) ⟨71,8,71,19⟩)
  .nil) .nil ⟨70,4,71,19⟩)
  (rawsOf ((bodyOf pw "fspath").drop 2))))
noncomputable def pFfspath : List Nat := [0]
noncomputable def bF_get_sep : Bl := (.cons (.ite (.isB (.var 0 ⟨98,18,98,22⟩) ⟨98,7,98,17⟩ ⟨98,24,98,29⟩ ⟨98,7,98,30⟩) (.cons (.raw (.Return (some (.Constant (.bytes [47]) 0 ⟨99,15,99,19⟩)) ⟨99,8,99,19⟩))
  .nil) (.cons (.ret (.str "/" 0 ⟨101,15,101,18⟩) ⟨101,8,101,18⟩)
  .nil) ⟨98,4,101,18⟩)
  .nil)
noncomputable def pF_get_sep : List Nat := [0]
noncomputable def bFjoin : Bl := (.cons (.asg 2 ⟨103,4,103,5⟩ (.call 0 ⟨103,8,103,14⟩ (.cons (.var 2 ⟨103,15,103,16⟩) .nil) ⟨103,8,103,17⟩) ⟨103,4,103,17⟩)
  (.cons (.asg 4 ⟨104,4,104,7⟩ (.call 1 ⟨104,10,104,18⟩ (.cons (.var 2 ⟨104,19,104,20⟩) .nil) ⟨104,10,104,21⟩) ⟨104,4,104,21⟩)
  (.cons (.asg 0 ⟨105,4,105,8⟩ (.var 2 ⟨105,11,105,12⟩) ⟨105,4,105,12⟩)
  (.cons (.tri (.cons (.for (.one 5 ⟨107,12,107,13⟩) (.var 3 ⟨107,17,107,18⟩) (.cons (.asg 5 ⟨108,12,108,13⟩ (.call 0 ⟨108,16,108,22⟩ (.cons (.var 5 ⟨108,23,108,24⟩) .nil) ⟨108,16,108,25⟩) ⟨108,12,108,25⟩)
  (.cons (.ite (.or (.meth .startswith (.var 5 ⟨109,15,109,16⟩) ⟨109,15,109,27⟩ (.cons (.var 4 ⟨109,28,109,31⟩) .nil) ⟨109,15,109,32⟩) (.not (.var 0 ⟨109,40,109,44⟩) ⟨109,36,109,44⟩) ⟨109,15,109,44⟩) (.cons (.asg 0 ⟨110,16,110,20⟩ (.var 5 ⟨110,23,110,24⟩) ⟨110,16,110,24⟩)
  .nil) (.cons (.ite (.meth .endswith (.var 0 ⟨111,17,111,21⟩) ⟨111,17,111,30⟩ (.cons (.var 4 ⟨111,31,111,34⟩) .nil) ⟨111,17,111,35⟩) (.cons (.aug 0 ⟨112,16,112,20⟩ .add (.var 5 ⟨112,24,112,25⟩) ⟨112,16,112,25⟩)
  .nil) (.cons (.aug 0 ⟨114,16,114,20⟩ .add (.bin .add (.var 4 ⟨114,24,114,27⟩) (.var 5 ⟨114,30,114,31⟩) ⟨114,24,114,31⟩) ⟨114,16,114,31⟩)
  .nil) ⟨111,12,114,31⟩)
  .nil) ⟨109,12,114,31⟩)
  .nil)) ⟨107,8,114,31⟩)
  .nil) (hdOf pw "join") (htOf pw "join") ⟨106,4,117,13⟩)
  (.cons (.ret (.var 0 ⟨118,11,118,15⟩) ⟨118,4,118,15⟩)
  .nil)))))
noncomputable def pFjoin : List Nat := [2, 3]
noncomputable def bFbasename : Bl := (.cons (.asg 3 ⟨120,4,120,5⟩ (.call 0 ⟨120,8,120,14⟩ (.cons (.var 3 ⟨120,15,120,16⟩) .nil) ⟨120,8,120,17⟩) ⟨120,4,120,17⟩)
  (.cons (.asg 4 ⟨121,4,121,7⟩ (.call 1 ⟨121,10,121,18⟩ (.cons (.var 3 ⟨121,19,121,20⟩) .nil) ⟨121,10,121,21⟩) ⟨121,4,121,21⟩)
  (.cons (.asg 6 ⟨122,4,122,5⟩ (.bin .add (.meth .rfind (.var 3 ⟨122,8,122,9⟩) ⟨122,8,122,15⟩ (.cons (.var 4 ⟨122,16,122,19⟩) .nil) ⟨122,8,122,20⟩) (.int (1) 0 ⟨122,23,122,24⟩) ⟨122,8,122,24⟩) ⟨122,4,122,24⟩)
  (.cons (.ret (.slice (.var 3 ⟨123,11,123,12⟩) (.some (.var 6 ⟨123,13,123,14⟩)) .none ⟨123,13,123,15⟩ ⟨123,11,123,16⟩) ⟨123,4,123,16⟩)
  .nil))))
noncomputable def pFbasename : List Nat := [3]
noncomputable def bFdirname : Bl := (.cons (.asg 3 ⟨125,4,125,5⟩ (.call 0 ⟨125,8,125,14⟩ (.cons (.var 3 ⟨125,15,125,16⟩) .nil) ⟨125,8,125,17⟩) ⟨125,4,125,17⟩)
  (.cons (.asg 4 ⟨126,4,126,7⟩ (.call 1 ⟨126,10,126,18⟩ (.cons (.var 3 ⟨126,19,126,20⟩) .nil) ⟨126,10,126,21⟩) ⟨126,4,126,21⟩)
  (.cons (.asg 6 ⟨127,4,127,5⟩ (.bin .add (.meth .rfind (.var 3 ⟨127,8,127,9⟩) ⟨127,8,127,15⟩ (.cons (.var 4 ⟨127,16,127,19⟩) .nil) ⟨127,8,127,20⟩) (.int (1) 0 ⟨127,23,127,24⟩) ⟨127,8,127,24⟩) ⟨127,4,127,24⟩)
  (.cons (.asg 7 ⟨128,4,128,8⟩ (.slice (.var 3 ⟨128,11,128,12⟩) .none (.some (.var 6 ⟨128,14,128,15⟩)) ⟨128,13,128,15⟩ ⟨128,11,128,16⟩) ⟨128,4,128,16⟩)
  (.cons (.ite (.and (.var 7 ⟨129,7,129,11⟩) (.cmp .ne (.var 7 ⟨129,16,129,20⟩) (.bin .mul (.var 4 ⟨129,24,129,27⟩) (.bi .len ⟨129,30,129,33⟩ (.cons (.var 7 ⟨129,34,129,38⟩) .nil) ⟨129,30,129,39⟩) ⟨129,24,129,39⟩) ⟨129,16,129,39⟩) ⟨129,7,129,39⟩) (.cons (.asg 7 ⟨130,8,130,12⟩ (.meth .rstrip (.var 7 ⟨130,15,130,19⟩) ⟨130,15,130,26⟩ (.cons (.var 4 ⟨130,27,130,30⟩) .nil) ⟨130,15,130,31⟩) ⟨130,8,130,31⟩)
  .nil) .nil ⟨129,4,130,31⟩)
  (.cons (.ret (.var 7 ⟨131,11,131,15⟩) ⟨131,4,131,15⟩)
  .nil))))))
noncomputable def pFdirname : List Nat := [3]
noncomputable def bF_escape_cdata : Bl := (.cons (.tri (.cons (.repIf 8 "&" 0 ⟨137,11,137,14⟩ ⟨137,18,137,22⟩ ⟨137,11,137,22⟩ ⟨138,12,138,16⟩ ⟨138,19,138,23⟩ ⟨138,19,138,31⟩ 0 ⟨138,32,138,35⟩ "&amp;" 0 ⟨138,37,138,44⟩ ⟨138,19,138,45⟩ ⟨138,12,138,45⟩ ⟨137,8,138,45⟩)
  (.cons (.repIf 8 "<" 0 ⟨139,11,139,14⟩ ⟨139,18,139,22⟩ ⟨139,11,139,22⟩ ⟨140,12,140,16⟩ ⟨140,19,140,23⟩ ⟨140,19,140,31⟩ 0 ⟨140,32,140,35⟩ "&lt;" 0 ⟨140,37,140,43⟩ ⟨140,19,140,44⟩ ⟨140,12,140,44⟩ ⟨139,8,140,44⟩)
  (.cons (.repIf 8 ">" 0 ⟨141,11,141,14⟩ ⟨141,18,141,22⟩ ⟨141,11,141,22⟩ ⟨142,12,142,16⟩ ⟨142,19,142,23⟩ ⟨142,19,142,31⟩ 0 ⟨142,32,142,35⟩ "&gt;" 0 ⟨142,37,142,43⟩ ⟨142,19,142,44⟩ ⟨142,12,142,44⟩ ⟨141,8,142,44⟩)
  (.cons (.ret (.var 8 ⟨143,15,143,19⟩) ⟨143,8,143,19⟩)
  .nil)))) (hdOf pw "_escape_cdata") (htOf pw "_escape_cdata") ⟨136,4,145,40⟩)
  .nil)
noncomputable def pF_escape_cdata : List Nat := [8]
noncomputable def bF_escape_attrib : Bl := (.cons (.tri (.cons (.repIf 8 "&" 0 ⟨148,11,148,14⟩ ⟨148,18,148,22⟩ ⟨148,11,148,22⟩ ⟨149,12,149,16⟩ ⟨149,19,149,23⟩ ⟨149,19,149,31⟩ 0 ⟨149,32,149,35⟩ "&amp;" 0 ⟨149,37,149,44⟩ ⟨149,19,149,45⟩ ⟨149,12,149,45⟩ ⟨148,8,149,45⟩)
  (.cons (.repIf 8 "<" 0 ⟨150,11,150,14⟩ ⟨150,18,150,22⟩ ⟨150,11,150,22⟩ ⟨151,12,151,16⟩ ⟨151,19,151,23⟩ ⟨151,19,151,31⟩ 0 ⟨151,32,151,35⟩ "&lt;" 0 ⟨151,37,151,43⟩ ⟨151,19,151,44⟩ ⟨151,12,151,44⟩ ⟨150,8,151,44⟩)
  (.cons (.repIf 8 ">" 0 ⟨152,11,152,14⟩ ⟨152,18,152,22⟩ ⟨152,11,152,22⟩ ⟨153,12,153,16⟩ ⟨153,19,153,23⟩ ⟨153,19,153,31⟩ 0 ⟨153,32,153,35⟩ "&gt;" 0 ⟨153,37,153,43⟩ ⟨153,19,153,44⟩ ⟨153,12,153,44⟩ ⟨152,8,153,44⟩)
  (.cons (.repIf 8 "\"" 0 ⟨154,11,154,14⟩ ⟨154,18,154,22⟩ ⟨154,11,154,22⟩ ⟨155,12,155,16⟩ ⟨155,19,155,23⟩ ⟨155,19,155,31⟩ 0 ⟨155,32,155,35⟩ "&quot;" 0 ⟨155,37,155,45⟩ ⟨155,19,155,46⟩ ⟨155,12,155,46⟩ ⟨154,8,155,46⟩)
  (.cons (.repIf 8 "\r" 0 ⟨156,11,156,15⟩ ⟨156,19,156,23⟩ ⟨156,11,156,23⟩ ⟨157,12,157,16⟩ ⟨157,19,157,23⟩ ⟨157,19,157,31⟩ 0 ⟨157,32,157,36⟩ "&#13;" 0 ⟨157,38,157,45⟩ ⟨157,19,157,46⟩ ⟨157,12,157,46⟩ ⟨156,8,157,46⟩)
  (.cons (.repIf 8 "\n" 0 ⟨158,11,158,15⟩ ⟨158,19,158,23⟩ ⟨158,11,158,23⟩ ⟨159,12,159,16⟩ ⟨159,19,159,23⟩ ⟨159,19,159,31⟩ 0 ⟨159,32,159,36⟩ "&#10;" 0 ⟨159,38,159,45⟩ ⟨159,19,159,46⟩ ⟨159,12,159,46⟩ ⟨158,8,159,46⟩)
  (.cons (.repIf 8 "\t" 0 ⟨160,11,160,15⟩ ⟨160,19,160,23⟩ ⟨160,11,160,23⟩ ⟨161,12,161,16⟩ ⟨161,19,161,23⟩ ⟨161,19,161,31⟩ 0 ⟨161,32,161,36⟩ "&#09;" 0 ⟨161,38,161,45⟩ ⟨161,19,161,46⟩ ⟨161,12,161,46⟩ ⟨160,8,161,46⟩)
  (.cons (.ret (.var 8 ⟨162,15,162,19⟩) ⟨162,8,162,19⟩)
  .nil)))))))) (hdOf pw "_escape_attrib") (htOf pw "_escape_attrib") ⟨147,4,164,40⟩)
  .nil)
noncomputable def pF_escape_attrib : List Nat := [8]
noncomputable def bF_escape_attrib_html : Bl := (.cons (.tri (.cons (.repIf 8 "&" 0 ⟨167,11,167,14⟩ ⟨167,18,167,22⟩ ⟨167,11,167,22⟩ ⟨168,12,168,16⟩ ⟨168,19,168,23⟩ ⟨168,19,168,31⟩ 0 ⟨168,32,168,35⟩ "&amp;" 0 ⟨168,37,168,44⟩ ⟨168,19,168,45⟩ ⟨168,12,168,45⟩ ⟨167,8,168,45⟩)
  (.cons (.repIf 8 ">" 0 ⟨169,11,169,14⟩ ⟨169,18,169,22⟩ ⟨169,11,169,22⟩ ⟨170,12,170,16⟩ ⟨170,19,170,23⟩ ⟨170,19,170,31⟩ 0 ⟨170,32,170,35⟩ "&gt;" 0 ⟨170,37,170,43⟩ ⟨170,19,170,44⟩ ⟨170,12,170,44⟩ ⟨169,8,170,44⟩)
  (.cons (.repIf 8 "\"" 0 ⟨171,11,171,14⟩ ⟨171,18,171,22⟩ ⟨171,11,171,22⟩ ⟨172,12,172,16⟩ ⟨172,19,172,23⟩ ⟨172,19,172,31⟩ 0 ⟨172,32,172,35⟩ "&quot;" 0 ⟨172,37,172,45⟩ ⟨172,19,172,46⟩ ⟨172,12,172,46⟩ ⟨171,8,172,46⟩)
  (.cons (.ret (.var 8 ⟨173,15,173,19⟩) ⟨173,8,173,19⟩)
  .nil)))) (hdOf pw "_escape_attrib_html") (htOf pw "_escape_attrib_html") ⟨166,4,175,40⟩)
  .nil)
noncomputable def pF_escape_attrib_html : List Nat := [8]
noncomputable def bF_escape_cdata_c14n : Bl := (.cons (.tri (.cons (.repIf 8 "&" 0 ⟨178,11,178,14⟩ ⟨178,18,178,22⟩ ⟨178,11,178,22⟩ ⟨179,12,179,16⟩ ⟨179,19,179,23⟩ ⟨179,19,179,31⟩ 0 ⟨179,32,179,35⟩ "&amp;" 0 ⟨179,37,179,44⟩ ⟨179,19,179,45⟩ ⟨179,12,179,45⟩ ⟨178,8,179,45⟩)
  (.cons (.repIf 8 "<" 0 ⟨180,11,180,14⟩ ⟨180,18,180,22⟩ ⟨180,11,180,22⟩ ⟨181,12,181,16⟩ ⟨181,19,181,23⟩ ⟨181,19,181,31⟩ 0 ⟨181,32,181,35⟩ "&lt;" 0 ⟨181,37,181,43⟩ ⟨181,19,181,44⟩ ⟨181,12,181,44⟩ ⟨180,8,181,44⟩)
  (.cons (.repIf 8 ">" 0 ⟨182,11,182,14⟩ ⟨182,18,182,22⟩ ⟨182,11,182,22⟩ ⟨183,12,183,16⟩ ⟨183,19,183,23⟩ ⟨183,19,183,31⟩ 0 ⟨183,32,183,35⟩ "&gt;" 0 ⟨183,37,183,43⟩ ⟨183,19,183,44⟩ ⟨183,12,183,44⟩ ⟨182,8,183,44⟩)
  (.cons (.repIf 8 "\r" 0 ⟨184,11,184,15⟩ ⟨184,19,184,23⟩ ⟨184,11,184,23⟩ ⟨185,12,185,16⟩ ⟨185,19,185,23⟩ ⟨185,19,185,31⟩ 0 ⟨185,32,185,36⟩ "&#xD;" 0 ⟨185,38,185,45⟩ ⟨185,19,185,46⟩ ⟨185,12,185,46⟩ ⟨184,8,185,46⟩)
  (.cons (.ret (.var 8 ⟨186,15,186,19⟩) ⟨186,8,186,19⟩)
  .nil))))) (hdOf pw "_escape_cdata_c14n") (htOf pw "_escape_cdata_c14n") ⟨177,4,188,40⟩)
  .nil)
noncomputable def pF_escape_cdata_c14n : List Nat := [8]
noncomputable def bF_escape_attrib_c14n : Bl := (.cons (.tri (.cons (.repIf 8 "&" 0 ⟨191,11,191,14⟩ ⟨191,18,191,22⟩ ⟨191,11,191,22⟩ ⟨192,12,192,16⟩ ⟨192,19,192,23⟩ ⟨192,19,192,31⟩ 0 ⟨192,32,192,35⟩ "&amp;" 0 ⟨192,37,192,44⟩ ⟨192,19,192,45⟩ ⟨192,12,192,45⟩ ⟨191,8,192,45⟩)
  (.cons (.repIf 8 "<" 0 ⟨193,11,193,14⟩ ⟨193,18,193,22⟩ ⟨193,11,193,22⟩ ⟨194,12,194,16⟩ ⟨194,19,194,23⟩ ⟨194,19,194,31⟩ 0 ⟨194,32,194,35⟩ "&lt;" 0 ⟨194,37,194,43⟩ ⟨194,19,194,44⟩ ⟨194,12,194,44⟩ ⟨193,8,194,44⟩)
  (.cons (.repIf 8 "\"" 0 ⟨195,11,195,14⟩ ⟨195,18,195,22⟩ ⟨195,11,195,22⟩ ⟨196,12,196,16⟩ ⟨196,19,196,23⟩ ⟨196,19,196,31⟩ 0 ⟨196,32,196,35⟩ "&quot;" 0 ⟨196,37,196,45⟩ ⟨196,19,196,46⟩ ⟨196,12,196,46⟩ ⟨195,8,196,46⟩)
  (.cons (.repIf 8 "\t" 0 ⟨197,11,197,15⟩ ⟨197,19,197,23⟩ ⟨197,11,197,23⟩ ⟨198,12,198,16⟩ ⟨198,19,198,23⟩ ⟨198,19,198,31⟩ 0 ⟨198,32,198,36⟩ "&#x9;" 0 ⟨198,38,198,45⟩ ⟨198,19,198,46⟩ ⟨198,12,198,46⟩ ⟨197,8,198,46⟩)
  (.cons (.repIf 8 "\n" 0 ⟨199,11,199,15⟩ ⟨199,19,199,23⟩ ⟨199,11,199,23⟩ ⟨200,12,200,16⟩ ⟨200,19,200,23⟩ ⟨200,19,200,31⟩ 0 ⟨200,32,200,36⟩ "&#xA;" 0 ⟨200,38,200,45⟩ ⟨200,19,200,46⟩ ⟨200,12,200,46⟩ ⟨199,8,200,46⟩)
  (.cons (.repIf 8 "\r" 0 ⟨201,11,201,15⟩ ⟨201,19,201,23⟩ ⟨201,11,201,23⟩ ⟨202,12,202,16⟩ ⟨202,19,202,23⟩ ⟨202,19,202,31⟩ 0 ⟨202,32,202,36⟩ "&#xD;" 0 ⟨202,38,202,45⟩ ⟨202,19,202,46⟩ ⟨202,12,202,46⟩ ⟨201,8,202,46⟩)
  (.cons (.ret (.var 8 ⟨203,15,203,19⟩) ⟨203,8,203,19⟩)
  .nil))))))) (hdOf pw "_escape_attrib_c14n") (htOf pw "_escape_attrib_c14n") ⟨190,4,205,40⟩)
  .nil)
noncomputable def pF_escape_attrib_c14n : List Nat := [8]
noncomputable def bF_law_drawn : Bl := (.cons (.own 10 ⟨208,4,208,9⟩ (.list (.cons (.int (17) 0 ⟨208,13,208,15⟩) (.cons (.int (17614286) 0 ⟨208,17,208,25⟩) (.cons (.int (3501972) 0 ⟨208,27,208,34⟩) (.cons (.int (3) 0 ⟨208,36,208,37⟩) .nil)))) ⟨208,12,208,38⟩) ⟨208,4,208,38⟩)
  (.cons (.for (.two 11 ⟨209,8,209,9⟩ 12 ⟨209,11,209,12⟩ 0 ⟨209,8,209,12⟩) (.bi .enumerate ⟨209,16,209,25⟩ (.cons (.slice (.var 9 ⟨209,26,209,32⟩) .none (.some (.int (60) 0 ⟨209,34,209,36⟩)) ⟨209,33,209,36⟩ ⟨209,26,209,37⟩) .nil) ⟨209,16,209,38⟩) (.cons (.augI 10 ⟨210,8,210,13⟩ (.bin .mod (.var 11 ⟨210,14,210,15⟩) (.int (4) 0 ⟨210,18,210,19⟩) ⟨210,14,210,19⟩) ⟨210,8,210,20⟩ .add (.bin .mod (.var 12 ⟨210,24,210,25⟩) (.int (10000000) 0 ⟨210,28,210,36⟩) ⟨210,24,210,36⟩) ⟨210,8,210,36⟩)
  .nil) ⟨209,4,210,36⟩)
  (.cons (.asg 13 ⟨211,4,211,8⟩ (.list (.cons (.str "\t" 0 ⟨211,12,211,16⟩) (.cons (.str "\n" 0 ⟨211,18,211,22⟩) (.cons (.str "\r" 0 ⟨211,24,211,28⟩) (.cons (.str "\"" 0 ⟨211,30,211,33⟩) (.cons (.str "&" 0 ⟨211,35,211,38⟩) (.cons (.str "&lt;" 0 ⟨211,40,211,46⟩) (.cons (.str "#" 0 ⟨211,48,211,51⟩) (.cons (.str "'" 0 ⟨211,53,211,56⟩) (.cons (.str "<" 0 ⟨211,58,211,61⟩) (.cons (.str "=" 0 ⟨211,63,211,66⟩) (.cons (.str ">" 0 ⟨211,68,211,71⟩) (.cons (.str "a" 0 ⟨211,73,211,76⟩) .nil)))))))))))) ⟨211,11,211,77⟩) ⟨211,4,211,77⟩)
  (.cons (.asg 14 ⟨212,4,212,9⟩ (.lcomp (.item (.var 13 ⟨212,13,212,17⟩) (.bin .mod (.bin .add (.bin .fdiv (.item (.var 10 ⟨212,19,212,24⟩) (.int (0) 0 ⟨212,25,212,26⟩) ⟨212,19,212,27⟩) (.int (5) 0 ⟨212,31,212,32⟩) ⟨212,19,212,32⟩) (.var 11 ⟨212,35,212,36⟩) ⟨212,19,212,36⟩) (.int (12) 0 ⟨212,40,212,42⟩) ⟨212,18,212,42⟩) ⟨212,13,212,43⟩) (.cons (.one 11 ⟨212,48,212,49⟩) (.bi .range ⟨212,53,212,58⟩ (.cons (.int (5) 0 ⟨212,59,212,60⟩) .nil) ⟨212,53,212,61⟩) .nil .nil) sc0 ⟨212,12,212,62⟩) ⟨212,4,212,62⟩)
  (.cons (.ownL 15 ⟨213,4,213,10⟩ ⟨213,13,213,37⟩ [⟨213,14,213,16⟩, ⟨213,18,213,20⟩, ⟨213,22,213,24⟩, ⟨213,26,213,28⟩, ⟨213,30,213,32⟩, ⟨213,34,213,36⟩] ⟨213,4,213,37⟩)
  (.cons (.frz 10) (.cons (.for (.one 16 ⟨214,8,214,12⟩) (.slice (.var 10 ⟨214,16,214,21⟩) (.some (.int (1) 0 ⟨214,22,214,23⟩)) (.some (.int (3) 0 ⟨214,24,214,25⟩)) ⟨214,22,214,25⟩ ⟨214,16,214,26⟩) (.cons (.asg 17 ⟨215,8,215,12⟩ (.var 16 ⟨215,15,215,19⟩) ⟨215,8,215,19⟩)
  (.cons (.for (.one 18 ⟨216,12,216,17⟩) (.bi .range ⟨216,21,216,26⟩ (.cons (.int (10) 0 ⟨216,27,216,29⟩) .nil) ⟨216,21,216,30⟩) (.cons (.unp [(17, ⟨217,12,217,16⟩), (19, ⟨217,18,217,22⟩)] 0 ⟨217,12,217,22⟩ (.bi .divmod ⟨217,25,217,31⟩ (.cons (.var 17 ⟨217,32,217,36⟩) (.cons (.int (6) 0 ⟨217,38,217,39⟩) .nil)) ⟨217,25,217,40⟩) ⟨217,12,217,40⟩)
  (.cons (.appI 15 ⟨218,12,218,18⟩ (.bin .add (.bin .fdiv (.var 18 ⟨218,19,218,24⟩) (.int (2) 0 ⟨218,28,218,29⟩) ⟨218,19,218,29⟩) (.int (1) 0 ⟨218,32,218,33⟩) ⟨218,19,218,33⟩) ⟨218,12,218,34⟩ ⟨218,12,218,41⟩ (.var 19 ⟨218,42,218,46⟩) ⟨218,12,218,47⟩ ⟨218,12,218,47⟩)
  .nil)) ⟨216,8,218,47⟩)
  .nil)) ⟨214,4,218,47⟩)
  (.cons (.frz 15) (.cons (.ret (.tup (.cons (.bin .mod (.item (.var 10 ⟨219,12,219,17⟩) (.int (0) 0 ⟨219,18,219,19⟩) ⟨219,12,219,20⟩) (.int (5) 0 ⟨219,23,219,24⟩) ⟨219,12,219,24⟩) (.cons (.var 14 ⟨219,26,219,31⟩) (.cons (.var 15 ⟨219,33,219,39⟩) (.cons (.item (.var 10 ⟨219,41,219,46⟩) (.int (3) 0 ⟨219,47,219,48⟩) ⟨219,41,219,49⟩) .nil)))) 0 ⟨219,11,219,50⟩) ⟨219,4,219,50⟩)
  .nil)))))))))
noncomputable def pF_law_drawn : List Nat := [9]
noncomputable def bF_law_told : Bl := (.cons (.asg 20 ⟨221,4,221,9⟩ (.list (.cons (.dict (.cons (.str "&" 0 ⟨221,14,221,17⟩) (.cons (.str "<" 0 ⟨221,28,221,31⟩) (.cons (.str ">" 0 ⟨221,41,221,44⟩) .nil))) (.cons (.str "&amp;" 0 ⟨221,19,221,26⟩) (.cons (.str "&lt;" 0 ⟨221,33,221,39⟩) (.cons (.str "&gt;" 0 ⟨221,46,221,52⟩) .nil))) ⟨221,13,221,53⟩) (.cons (.dict (.cons (.str "&" 0 ⟨221,56,221,59⟩) (.cons (.str "<" 0 ⟨221,70,221,73⟩) (.cons (.str ">" 0 ⟨221,83,221,86⟩) (.cons (.str "\r" 0 ⟨221,96,221,100⟩) .nil)))) (.cons (.str "&amp;" 0 ⟨221,61,221,68⟩) (.cons (.str "&lt;" 0 ⟨221,75,221,81⟩) (.cons (.str "&gt;" 0 ⟨221,88,221,94⟩) (.cons (.str "&#xD;" 0 ⟨221,102,221,109⟩) .nil)))) ⟨221,55,221,110⟩) (.cons (.dict (.cons (.str "&" 0 ⟨221,113,221,116⟩) (.cons (.str "<" 0 ⟨221,127,221,130⟩) (.cons (.str ">" 0 ⟨221,140,221,143⟩) (.cons (.str "\"" 0 ⟨221,153,221,156⟩) (.cons (.str "\r" 0 ⟨221,168,221,172⟩) (.cons (.str "\n" 0 ⟨221,183,221,187⟩) (.cons (.str "\t" 0 ⟨221,198,221,202⟩) .nil))))))) (.cons (.str "&amp;" 0 ⟨221,118,221,125⟩) (.cons (.str "&lt;" 0 ⟨221,132,221,138⟩) (.cons (.str "&gt;" 0 ⟨221,145,221,151⟩) (.cons (.str "&quot;" 0 ⟨221,158,221,166⟩) (.cons (.str "&#13;" 0 ⟨221,174,221,181⟩) (.cons (.str "&#10;" 0 ⟨221,189,221,196⟩) (.cons (.str "&#09;" 0 ⟨221,204,221,211⟩) .nil))))))) ⟨221,112,221,212⟩) (.cons (.dict (.cons (.str "&" 0 ⟨221,215,221,218⟩) (.cons (.str "<" 0 ⟨221,229,221,232⟩) (.cons (.str "\"" 0 ⟨221,242,221,245⟩) (.cons (.str "\r" 0 ⟨221,257,221,261⟩) (.cons (.str "\n" 0 ⟨221,272,221,276⟩) (.cons (.str "\t" 0 ⟨221,287,221,291⟩) .nil)))))) (.cons (.str "&amp;" 0 ⟨221,220,221,227⟩) (.cons (.str "&lt;" 0 ⟨221,234,221,240⟩) (.cons (.str "&quot;" 0 ⟨221,247,221,255⟩) (.cons (.str "&#xD;" 0 ⟨221,263,221,270⟩) (.cons (.str "&#xA;" 0 ⟨221,278,221,285⟩) (.cons (.str "&#x9;" 0 ⟨221,293,221,300⟩) .nil)))))) ⟨221,214,221,301⟩) (.cons (.dict (.cons (.str "&" 0 ⟨221,304,221,307⟩) (.cons (.str ">" 0 ⟨221,318,221,321⟩) (.cons (.str "\"" 0 ⟨221,331,221,334⟩) .nil))) (.cons (.str "&amp;" 0 ⟨221,309,221,316⟩) (.cons (.str "&gt;" 0 ⟨221,323,221,329⟩) (.cons (.str "&quot;" 0 ⟨221,336,221,344⟩) .nil))) ⟨221,303,221,345⟩) .nil))))) ⟨221,12,221,346⟩) ⟨221,4,221,346⟩)
  (.cons (.ret (.meth .join (.str "" 0 ⟨222,11,222,13⟩) ⟨222,11,222,18⟩ (.cons (.lcomp (.meth .get (.item (.var 20 ⟨222,20,222,25⟩) (.var 1 ⟨222,26,222,30⟩) ⟨222,20,222,31⟩) ⟨222,20,222,35⟩ (.cons (.var 21 ⟨222,36,222,40⟩) (.cons (.var 21 ⟨222,42,222,46⟩) .nil)) ⟨222,20,222,47⟩) (.cons (.one 21 ⟨222,52,222,56⟩) (.var 8 ⟨222,60,222,64⟩) .nil .nil) sc1 ⟨222,19,222,65⟩) .nil) ⟨222,11,222,66⟩) ⟨222,4,222,66⟩)
  .nil))
noncomputable def pF_law_told : List Nat := [8, 1]
noncomputable def bF_law_written : Bl := (.cons (.ite (.cmp .eq (.var 1 ⟨224,7,224,11⟩) (.int (0) 0 ⟨224,15,224,16⟩) ⟨224,7,224,16⟩) (.cons (.ret (.call 6 ⟨225,15,225,28⟩ (.cons (.var 8 ⟨225,29,225,33⟩) .nil) ⟨225,15,225,34⟩) ⟨225,8,225,34⟩)
  .nil) .nil ⟨224,4,225,34⟩)
  (.cons (.ite (.cmp .eq (.var 1 ⟨226,7,226,11⟩) (.int (1) 0 ⟨226,15,226,16⟩) ⟨226,7,226,16⟩) (.cons (.ret (.call 9 ⟨227,15,227,33⟩ (.cons (.var 8 ⟨227,34,227,38⟩) .nil) ⟨227,15,227,39⟩) ⟨227,8,227,39⟩)
  .nil) .nil ⟨226,4,227,39⟩)
  (.cons (.ite (.cmp .eq (.var 1 ⟨228,7,228,11⟩) (.int (2) 0 ⟨228,15,228,16⟩) ⟨228,7,228,16⟩) (.cons (.ret (.call 7 ⟨229,15,229,29⟩ (.cons (.var 8 ⟨229,30,229,34⟩) .nil) ⟨229,15,229,35⟩) ⟨229,8,229,35⟩)
  .nil) .nil ⟨228,4,229,35⟩)
  (.cons (.ite (.cmp .eq (.var 1 ⟨230,7,230,11⟩) (.int (3) 0 ⟨230,15,230,16⟩) ⟨230,7,230,16⟩) (.cons (.ret (.call 10 ⟨231,15,231,34⟩ (.cons (.var 8 ⟨231,35,231,39⟩) .nil) ⟨231,15,231,40⟩) ⟨231,8,231,40⟩)
  .nil) .nil ⟨230,4,231,40⟩)
  (.cons (.ret (.call 8 ⟨232,11,232,30⟩ (.cons (.var 8 ⟨232,31,232,35⟩) .nil) ⟨232,11,232,36⟩) ⟨232,4,232,36⟩)
  .nil)))))
noncomputable def pF_law_written : List Nat := [8, 1]
noncomputable def bF_law_due : Bl := (.cons (.own 23 ⟨234,4,234,8⟩ (.list (.cons (.int (0) 0 ⟨234,12,234,13⟩) (.cons (.int (0) 0 ⟨234,15,234,16⟩) (.cons (.int (0) 0 ⟨234,18,234,19⟩) (.cons (.int (0) 0 ⟨234,21,234,22⟩) (.cons (.int (0) 0 ⟨234,24,234,25⟩) (.cons (.int (0) 0 ⟨234,27,234,28⟩) .nil)))))) ⟨234,11,234,29⟩) ⟨234,4,234,29⟩)
  (.cons (.own 24 ⟨235,4,235,8⟩ (.list (.cons (.int (0) 0 ⟨235,12,235,13⟩) .nil) ⟨235,11,235,14⟩) ⟨235,4,235,14⟩)
  (.cons (.whl (.cmp .ne (.var 24 ⟨236,10,236,14⟩) (.list .nil ⟨236,18,236,20⟩) ⟨236,10,236,20⟩) (.cons (.asg 25 ⟨237,8,237,12⟩ (.bin .add (.list (.cons (.int (0) 0 ⟨237,16,237,17⟩) .nil) ⟨237,15,237,18⟩) (.lcomp (.item (.bin .add (.item (.var 15 ⟨237,23,237,29⟩) (.var 11 ⟨237,30,237,31⟩) ⟨237,23,237,32⟩) (.list (.cons (.int (0) 0 ⟨237,36,237,37⟩) .nil) ⟨237,35,237,38⟩) ⟨237,23,237,38⟩) (.item (.var 23 ⟨237,40,237,44⟩) (.var 11 ⟨237,45,237,46⟩) ⟨237,40,237,47⟩) ⟨237,22,237,48⟩) (.cons (.one 11 ⟨237,53,237,54⟩) (.bi .range ⟨237,58,237,63⟩ (.cons (.int (1) 0 ⟨237,64,237,65⟩) (.cons (.int (6) 0 ⟨237,67,237,68⟩) .nil)) ⟨237,58,237,69⟩) .nil .nil) sc2 ⟨237,21,237,70⟩) ⟨237,15,237,70⟩) ⟨237,8,237,70⟩)
  (.cons (.own 24 ⟨238,8,238,12⟩ (.list .nil ⟨238,15,238,17⟩) ⟨238,8,238,17⟩)
  (.cons (.for (.one 11 ⟨239,12,239,13⟩) (.bi .range ⟨239,17,239,22⟩ (.cons (.int (5) 0 ⟨239,23,239,24⟩) (.cons (.int (0) 0 ⟨239,26,239,27⟩) (.cons (.neg (.int (1) 0 ⟨239,30,239,31⟩) ⟨239,29,239,31⟩) .nil))) ⟨239,17,239,32⟩) (.cons (.asg 26 ⟨240,12,240,14⟩ (.item (.var 25 ⟨240,17,240,21⟩) (.item (.var 25 ⟨240,22,240,26⟩) (.item (.var 25 ⟨240,27,240,31⟩) (.item (.var 25 ⟨240,32,240,36⟩) (.item (.var 25 ⟨240,37,240,41⟩) (.var 11 ⟨240,42,240,43⟩) ⟨240,37,240,44⟩) ⟨240,32,240,45⟩) ⟨240,27,240,46⟩) ⟨240,22,240,47⟩) ⟨240,17,240,48⟩) ⟨240,12,240,48⟩)
  (.cons (.ite (.and (.cmp .ne (.var 26 ⟨241,15,241,17⟩) (.int (0) 0 ⟨241,21,241,22⟩) ⟨241,15,241,22⟩) (.cmp .eq (.var 24 ⟨241,27,241,31⟩) (.list .nil ⟨241,35,241,37⟩) ⟨241,27,241,37⟩) ⟨241,15,241,37⟩) (.cons (.own 24 ⟨242,16,242,20⟩ (.list (.cons (.var 26 ⟨242,24,242,26⟩) .nil) ⟨242,23,242,27⟩) ⟨242,16,242,27⟩)
  (.cons (.whl (.cmp .ne (.item (.var 25 ⟨243,22,243,26⟩) (.item (.var 24 ⟨243,27,243,31⟩) (.neg (.int (1) 0 ⟨243,33,243,34⟩) ⟨243,32,243,34⟩) ⟨243,27,243,35⟩) ⟨243,22,243,36⟩) (.var 26 ⟨243,40,243,42⟩) ⟨243,22,243,42⟩) (.cons (.app 24 ⟨244,20,244,24⟩ ⟨244,20,244,31⟩ (.item (.var 25 ⟨244,32,244,36⟩) (.item (.var 24 ⟨244,37,244,41⟩) (.neg (.int (1) 0 ⟨244,43,244,44⟩) ⟨244,42,244,44⟩) ⟨244,37,244,45⟩) ⟨244,32,244,46⟩) ⟨244,20,244,47⟩ ⟨244,20,244,47⟩)
  .nil) ⟨243,16,244,47⟩)
  .nil)) .nil ⟨241,12,244,47⟩)
  .nil)) ⟨239,8,244,47⟩)
  (.cons (.frz 24) (.cons (.for (.one 11 ⟨245,12,245,13⟩) (.var 24 ⟨245,17,245,21⟩) (.cons (.augI 23 ⟨246,12,246,16⟩ (.var 11 ⟨246,17,246,18⟩) ⟨246,12,246,19⟩ .add (.int (1) 0 ⟨246,23,246,24⟩) ⟨246,12,246,24⟩)
  .nil) ⟨245,8,246,24⟩)
  .nil))))) ⟨236,4,246,24⟩)
  (.cons (.own 27 ⟨247,4,247,11⟩ (.dict (.cons (.str "" 0 ⟨247,15,247,17⟩) .nil) (.cons (.str "/" 0 ⟨247,19,247,22⟩) .nil) ⟨247,14,247,23⟩) ⟨247,4,247,23⟩)
  (.cons (.for (.one 11 ⟨248,8,248,9⟩) (.bi .range ⟨248,13,248,18⟩ (.cons (.int (1) 0 ⟨248,19,248,20⟩) (.cons (.int (6) 0 ⟨248,22,248,23⟩) .nil)) ⟨248,13,248,24⟩) (.cons (.asg 0 ⟨249,8,249,12⟩ (.str "" 0 ⟨249,15,249,17⟩) ⟨249,8,249,17⟩)
  (.cons (.asg 26 ⟨250,8,250,10⟩ (.var 11 ⟨250,13,250,14⟩) ⟨250,8,250,14⟩)
  (.cons (.whl (.cmp .ne (.var 26 ⟨251,14,251,16⟩) (.int (0) 0 ⟨251,20,251,21⟩) ⟨251,14,251,21⟩) (.cons (.asg 0 ⟨252,12,252,16⟩ (.bin .add (.bin .add (.str "/" 0 ⟨252,19,252,22⟩) (.item (.var 22 ⟨252,25,252,29⟩) (.var 26 ⟨252,30,252,32⟩) ⟨252,25,252,33⟩) ⟨252,19,252,33⟩) (.var 0 ⟨252,36,252,40⟩) ⟨252,19,252,40⟩) ⟨252,12,252,40⟩)
  (.cons (.asg 26 ⟨253,12,253,14⟩ (.item (.var 25 ⟨253,17,253,21⟩) (.var 26 ⟨253,22,253,24⟩) ⟨253,17,253,25⟩) ⟨253,12,253,25⟩)
  .nil)) ⟨251,8,253,25⟩)
  (.cons (.setI 27 ⟨254,8,254,15⟩ (.item (.var 22 ⟨254,16,254,20⟩) (.var 11 ⟨254,21,254,22⟩) ⟨254,16,254,23⟩) ⟨254,8,254,24⟩ (.var 0 ⟨254,27,254,31⟩) ⟨254,8,254,31⟩)
  .nil)))) ⟨248,4,254,31⟩)
  (.cons (.frz 27) (.cons (.ret (.tup (.cons (.dcomp (.item (.var 22 ⟨255,13,255,17⟩) (.var 11 ⟨255,18,255,19⟩) ⟨255,13,255,20⟩) (.item (.var 23 ⟨255,22,255,26⟩) (.var 11 ⟨255,27,255,28⟩) ⟨255,22,255,29⟩) (.cons (.one 11 ⟨255,34,255,35⟩) (.bi .range ⟨255,39,255,44⟩ (.cons (.int (1) 0 ⟨255,45,255,46⟩) (.cons (.int (6) 0 ⟨255,48,255,49⟩) .nil)) ⟨255,39,255,50⟩) .nil .nil) sc3 ⟨255,12,255,51⟩) (.cons (.var 27 ⟨255,53,255,60⟩) .nil)) 0 ⟨255,11,255,61⟩) ⟨255,4,255,61⟩)
  .nil)))))))
noncomputable def pF_law_due : List Nat := [22, 15]
noncomputable def bF_law_walked : Bl := (.cons (.asg 29 ⟨257,4,257,9⟩ (.dcomp (.item (.var 28 ⟨257,13,257,18⟩) (.var 11 ⟨257,19,257,20⟩) ⟨257,13,257,21⟩) (.bin .add (.lcomp (.item (.var 28 ⟨257,24,257,29⟩) (.var 30 ⟨257,30,257,31⟩) ⟨257,24,257,32⟩) (.cons (.one 30 ⟨257,37,257,38⟩) (.item (.var 15 ⟨257,42,257,48⟩) (.var 11 ⟨257,49,257,50⟩) ⟨257,42,257,51⟩) .nil .nil) sc4 ⟨257,23,257,52⟩) (.list (.cons (.str "" 0 ⟨257,56,257,58⟩) .nil) ⟨257,55,257,59⟩) ⟨257,23,257,59⟩) (.cons (.one 11 ⟨257,64,257,65⟩) (.bi .range ⟨257,69,257,74⟩ (.cons (.int (1) 0 ⟨257,75,257,76⟩) (.cons (.int (6) 0 ⟨257,78,257,79⟩) .nil)) ⟨257,69,257,80⟩) .nil .nil) sc5 ⟨257,12,257,81⟩) ⟨257,4,257,81⟩)
  (.cons (.own 23 ⟨258,4,258,8⟩ (.dcomp (.var 31 ⟨258,12,258,16⟩) (.int (0) 0 ⟨258,18,258,19⟩) (.cons (.one 31 ⟨258,24,258,28⟩) (.slice (.var 28 ⟨258,32,258,37⟩) (.some (.int (1) 0 ⟨258,38,258,39⟩)) .none ⟨258,38,258,40⟩ ⟨258,32,258,41⟩) .nil .nil) sc6 ⟨258,11,258,42⟩) ⟨258,4,258,42⟩)
  (.cons (.own 27 ⟨259,4,259,11⟩ (.dict (.cons (.str "" 0 ⟨259,15,259,17⟩) .nil) (.cons (.str "/" 0 ⟨259,19,259,22⟩) .nil) ⟨259,14,259,23⟩) ⟨259,4,259,23⟩)
  (.cons (.asg 0 ⟨260,4,260,8⟩ (.str "" 0 ⟨260,11,260,13⟩) ⟨260,4,260,13⟩)
  (.cons (.for (.one 32 ⟨261,8,261,12⟩) (.bi .range ⟨261,16,261,21⟩ (.cons (.int (40) 0 ⟨261,22,261,24⟩) .nil) ⟨261,16,261,25⟩) (.cons (.ite (.cmp .eq (.var 0 ⟨262,11,262,15⟩) (.str "" 0 ⟨262,19,262,21⟩) ⟨262,11,262,21⟩) (.cons (.asg 33 ⟨263,12,263,16⟩ (.item (.call 5 ⟨263,19,263,41⟩ (.cons (.bi .sorted ⟨263,42,263,48⟩ (.cons (.slice (.var 28 ⟨263,49,263,54⟩) (.some (.int (1) 0 ⟨263,55,263,56⟩)) .none ⟨263,55,263,57⟩ ⟨263,49,263,58⟩) .nil) ⟨263,42,263,59⟩) (.cons (.bi .sorted ⟨263,61,263,67⟩ (.cons (.var 27 ⟨263,68,263,75⟩) .nil) ⟨263,61,263,76⟩) .nil)) ⟨263,19,263,77⟩) (.int (0) 0 ⟨263,78,263,79⟩) ⟨263,19,263,80⟩) ⟨263,12,263,80⟩)
  (.cons (.ite (.cmp .ne (.var 33 ⟨264,15,264,19⟩) (.list .nil ⟨264,23,264,25⟩) ⟨264,15,264,25⟩) (.cons (.unp [(17, ⟨265,16,265,20⟩), (18, ⟨265,22,265,27⟩)] 0 ⟨265,16,265,27⟩ (.bi .divmod ⟨265,30,265,36⟩ (.cons (.var 17 ⟨265,37,265,41⟩) (.cons (.bi .len ⟨265,43,265,46⟩ (.cons (.var 33 ⟨265,47,265,51⟩) .nil) ⟨265,43,265,52⟩) .nil)) ⟨265,30,265,53⟩) ⟨265,16,265,53⟩)
  (.cons (.asg 0 ⟨266,16,266,20⟩ (.call 2 ⟨266,23,266,27⟩ (.cons (.str "/" 0 ⟨266,28,266,31⟩) (.cons (.item (.var 33 ⟨266,33,266,37⟩) (.var 18 ⟨266,38,266,43⟩) ⟨266,33,266,44⟩) .nil)) ⟨266,23,266,45⟩) ⟨266,16,266,45⟩)
  .nil)) .nil ⟨264,12,266,45⟩)
  .nil)) (.cons (.asg 34 ⟨268,12,268,15⟩ (.slice (.meth .split (.var 0 ⟨268,18,268,22⟩) ⟨268,18,268,28⟩ (.cons (.str "/" 0 ⟨268,29,268,32⟩) .nil) ⟨268,18,268,33⟩) (.some (.int (1) 0 ⟨268,34,268,35⟩)) .none ⟨268,34,268,36⟩ ⟨268,18,268,37⟩) ⟨268,12,268,37⟩)
  (.cons (.asg 19 ⟨269,12,269,16⟩ (.item (.item (.var 29 ⟨269,19,269,24⟩) (.call 3 ⟨269,25,269,33⟩ (.cons (.var 0 ⟨269,34,269,38⟩) .nil) ⟨269,25,269,39⟩) ⟨269,19,269,40⟩) (.item (.var 23 ⟨269,41,269,45⟩) (.call 3 ⟨269,46,269,54⟩ (.cons (.var 0 ⟨269,55,269,59⟩) .nil) ⟨269,46,269,60⟩) ⟨269,41,269,61⟩) ⟨269,19,269,62⟩) ⟨269,12,269,62⟩)
  (.cons (.ite (.cmp .isIn (.var 19 ⟨270,15,270,19⟩) (.var 27 ⟨270,23,270,30⟩) ⟨270,15,270,30⟩) (.cons (.for (.one 31 ⟨271,20,271,24⟩) (.rev (.var 34 ⟨271,28,271,31⟩) 0 ⟨271,35,271,36⟩ ⟨271,34,271,36⟩ ⟨271,32,271,36⟩ ⟨271,28,271,37⟩) (.cons (.setI 27 ⟨272,20,272,27⟩ (.var 31 ⟨272,28,272,32⟩) ⟨272,20,272,33⟩ (.call 2 ⟨272,36,272,40⟩ (.cons (.item (.var 27 ⟨272,41,272,48⟩) (.var 19 ⟨272,49,272,53⟩) ⟨272,41,272,54⟩) (.cons (.var 31 ⟨272,56,272,60⟩) .nil)) ⟨272,36,272,61⟩) ⟨272,20,272,61⟩)
  (.cons (.asg 19 ⟨273,20,273,24⟩ (.var 31 ⟨273,27,273,31⟩) ⟨273,20,273,31⟩)
  .nil)) ⟨271,16,273,31⟩)
  (.cons (.asg 0 ⟨274,16,274,20⟩ (.str "" 0 ⟨274,23,274,25⟩) ⟨274,16,274,25⟩)
  .nil)) (.cons (.ite (.cmp .isIn (.var 19 ⟨275,17,275,21⟩) (.var 34 ⟨275,25,275,28⟩) ⟨275,17,275,28⟩) (.cons (.asg 24 ⟨276,16,276,20⟩ (.slice (.var 34 ⟨276,23,276,26⟩) (.some (.meth .index (.var 34 ⟨276,27,276,30⟩) ⟨276,27,276,36⟩ (.cons (.var 19 ⟨276,37,276,41⟩) .nil) ⟨276,27,276,42⟩)) .none ⟨276,27,276,43⟩ ⟨276,23,276,44⟩) ⟨276,16,276,44⟩)
  (.cons (.for (.one 31 ⟨277,20,277,24⟩) (.var 24 ⟨277,28,277,32⟩) (.cons (.augI 23 ⟨278,20,278,24⟩ (.var 31 ⟨278,25,278,29⟩) ⟨278,20,278,30⟩ .add (.int (1) 0 ⟨278,34,278,35⟩) ⟨278,20,278,35⟩)
  .nil) ⟨277,16,278,35⟩)
  (.cons (.for (.one 31 ⟨279,20,279,24⟩) (.slice (.var 24 ⟨279,28,279,32⟩) (.some (.int (1) 0 ⟨279,33,279,34⟩)) .none ⟨279,33,279,35⟩ ⟨279,28,279,36⟩) (.cons (.asg 0 ⟨280,20,280,24⟩ (.call 4 ⟨280,27,280,34⟩ (.cons (.var 0 ⟨280,35,280,39⟩) .nil) ⟨280,27,280,40⟩) ⟨280,20,280,40⟩)
  .nil) ⟨279,16,280,40⟩)
  .nil))) (.cons (.asg 0 ⟨282,16,282,20⟩ (.call 2 ⟨282,23,282,27⟩ (.cons (.var 0 ⟨282,28,282,32⟩) (.cons (.var 19 ⟨282,34,282,38⟩) .nil)) ⟨282,23,282,39⟩) ⟨282,16,282,39⟩)
  .nil) ⟨275,12,282,39⟩)
  .nil) ⟨270,12,282,39⟩)
  .nil))) ⟨262,8,282,39⟩)
  .nil) ⟨261,4,282,39⟩)
  (.cons (.frz 23) (.cons (.frz 27) (.cons (.ret (.tup (.cons (.var 23 ⟨283,12,283,16⟩) (.cons (.var 27 ⟨283,18,283,25⟩) .nil)) 0 ⟨283,11,283,26⟩) ⟨283,4,283,26⟩)
  .nil))))))))
noncomputable def pF_law_walked : List Nat := [28, 15, 17]
noncomputable def bFlaw : Bl := (.cons (.unp [(1, ⟨285,4,285,8⟩), (14, ⟨285,10,285,15⟩), (15, ⟨285,17,285,23⟩), (17, ⟨285,25,285,29⟩)] 0 ⟨285,4,285,29⟩ (.call 11 ⟨285,32,285,42⟩ (.cons (.var 9 ⟨285,43,285,49⟩) .nil) ⟨285,32,285,50⟩) ⟨285,4,285,50⟩)
  (.cons (.asg 28 ⟨286,4,286,9⟩ (.bin .add (.list (.cons (.str "" 0 ⟨286,13,286,15⟩) .nil) ⟨286,12,286,16⟩) (.lcomp (.call 13 ⟨286,20,286,32⟩ (.cons (.var 8 ⟨286,33,286,37⟩) (.cons (.var 1 ⟨286,39,286,43⟩) .nil)) ⟨286,20,286,44⟩) (.cons (.one 8 ⟨286,49,286,53⟩) (.var 14 ⟨286,57,286,62⟩) .nil .nil) sc7 ⟨286,19,286,63⟩) ⟨286,12,286,63⟩) ⟨286,4,286,63⟩)
  (.cons (.asg 22 ⟨287,4,287,8⟩ (.bin .add (.list (.cons (.str "" 0 ⟨287,12,287,14⟩) .nil) ⟨287,11,287,15⟩) (.lcomp (.call 12 ⟨287,19,287,28⟩ (.cons (.var 8 ⟨287,29,287,33⟩) (.cons (.var 1 ⟨287,35,287,39⟩) .nil)) ⟨287,19,287,40⟩) (.cons (.one 8 ⟨287,45,287,49⟩) (.var 14 ⟨287,53,287,58⟩) .nil .nil) sc8 ⟨287,18,287,59⟩) ⟨287,11,287,59⟩) ⟨287,4,287,59⟩)
  (.cons (.ret (.cmp .eq (.call 15 ⟨288,11,288,22⟩ (.cons (.var 28 ⟨288,23,288,28⟩) (.cons (.var 15 ⟨288,30,288,36⟩) (.cons (.var 17 ⟨288,38,288,42⟩) .nil))) ⟨288,11,288,43⟩) (.call 14 ⟨288,47,288,55⟩ (.cons (.var 22 ⟨288,56,288,60⟩) (.cons (.var 15 ⟨288,62,288,68⟩) .nil)) ⟨288,47,288,69⟩) ⟨288,11,288,69⟩) ⟨288,4,288,69⟩)
  .nil))))
noncomputable def pFlaw : List Nat := [9]
noncomputable def sFfspath : Scope := ⟨.function, [("path", .local), ("kind", .local), ("hook", .local), ("given", .local), ("type", .globalImplicit), ("issubclass", .globalImplicit), ("str", .globalImplicit), ("bytes", .globalImplicit), ("_abc_plain_meta", .globalImplicit), ("getattr", .globalImplicit), ("TypeError", .globalImplicit), ("_plain_name", .globalImplicit), ("_wall", .globalImplicit), ("len", .globalImplicit)], false, false, (recAt pw "fspath").scope.more⟩
noncomputable def sF_get_sep : Scope := ⟨.function, [("path", .local), ("isinstance", .globalImplicit), ("bytes", .globalImplicit)], false, false, (recAt pw "_get_sep").scope.more⟩
noncomputable def sFjoin : Scope := ⟨.function, [("a", .local), ("p", .local), ("sep", .local), ("path", .local), ("b", .local), ("fspath", .globalImplicit), ("_get_sep", .globalImplicit), ("TypeError", .globalImplicit), ("AttributeError", .globalImplicit), ("BytesWarning", .globalImplicit), ("_check_arg_types", .globalImplicit)], false, false, (recAt pw "join").scope.more⟩
noncomputable def sFbasename : Scope := ⟨.function, [("p", .local), ("sep", .local), ("i", .local), ("fspath", .globalImplicit), ("_get_sep", .globalImplicit)], false, false, (recAt pw "basename").scope.more⟩
noncomputable def sFdirname : Scope := ⟨.function, [("p", .local), ("sep", .local), ("i", .local), ("head", .local), ("fspath", .globalImplicit), ("_get_sep", .globalImplicit), ("len", .globalImplicit)], false, false, (recAt pw "dirname").scope.more⟩
noncomputable def sF_escape_cdata : Scope := ⟨.function, [("text", .local), ("TypeError", .globalImplicit), ("AttributeError", .globalImplicit), ("_raise_serialization_error", .globalImplicit)], false, false, (recAt pw "_escape_cdata").scope.more⟩
noncomputable def sF_escape_attrib : Scope := ⟨.function, [("text", .local), ("TypeError", .globalImplicit), ("AttributeError", .globalImplicit), ("_raise_serialization_error", .globalImplicit)], false, false, (recAt pw "_escape_attrib").scope.more⟩
noncomputable def sF_escape_attrib_html : Scope := ⟨.function, [("text", .local), ("TypeError", .globalImplicit), ("AttributeError", .globalImplicit), ("_raise_serialization_error", .globalImplicit)], false, false, (recAt pw "_escape_attrib_html").scope.more⟩
noncomputable def sF_escape_cdata_c14n : Scope := ⟨.function, [("text", .local), ("TypeError", .globalImplicit), ("AttributeError", .globalImplicit), ("_raise_serialization_error", .globalImplicit)], false, false, (recAt pw "_escape_cdata_c14n").scope.more⟩
noncomputable def sF_escape_attrib_c14n : Scope := ⟨.function, [("text", .local), ("TypeError", .globalImplicit), ("AttributeError", .globalImplicit), ("_raise_serialization_error", .globalImplicit)], false, false, (recAt pw "_escape_attrib_c14n").scope.more⟩
noncomputable def sF_law_drawn : Scope := ⟨.function, [("script", .local), ("cells", .cell), ("k", .local), ("x", .local), ("pool", .cell), ("texts", .local), ("arrows", .local), ("cell", .local), ("rest", .local), ("place", .local), ("goal", .local), ("enumerate", .globalImplicit), ("range", .globalImplicit), ("divmod", .globalImplicit)], false, false, (recAt pw "_law_drawn").scope.more⟩
noncomputable def sF_law_told : Scope := ⟨.function, [("text", .local), ("kind", .cell), ("forms", .cell)], false, false, (recAt pw "_law_told").scope.more⟩
noncomputable def sF_law_written : Scope := ⟨.function, [("text", .local), ("kind", .local), ("_escape_cdata", .globalImplicit), ("_escape_cdata_c14n", .globalImplicit), ("_escape_attrib", .globalImplicit), ("_escape_attrib_c14n", .globalImplicit), ("_escape_attrib_html", .globalImplicit)], false, false, (recAt pw "_law_written").scope.more⟩
noncomputable def sF_law_due : Scope := ⟨.function, [("told", .cell), ("arrows", .cell), ("lost", .cell), ("ring", .local), ("k", .local), ("tops", .local), ("at", .local), ("folders", .local), ("path", .local), ("range", .globalImplicit)], false, false, (recAt pw "_law_due").scope.more⟩
noncomputable def sF_law_walked : Scope := ⟨.function, [("names", .cell), ("arrows", .cell), ("rest", .local), ("goals", .local), ("name", .local), ("lost", .local), ("folders", .local), ("path", .local), ("turn", .local), ("left", .local), ("place", .local), ("way", .local), ("goal", .local), ("ring", .local), ("range", .globalImplicit), ("sorted_list_difference", .globalImplicit), ("sorted", .globalImplicit), ("divmod", .globalImplicit), ("len", .globalImplicit), ("join", .globalImplicit), ("basename", .globalImplicit), ("dirname", .globalImplicit)], false, false, (recAt pw "_law_walked").scope.more⟩
noncomputable def sFlaw : Scope := ⟨.function, [("script", .local), ("kind", .cell), ("texts", .local), ("arrows", .local), ("rest", .local), ("names", .local), ("told", .local), ("_law_drawn", .globalImplicit), ("_law_walked", .globalImplicit), ("_law_due", .globalImplicit)], false, false, (recAt pw "law").scope.more⟩
end Mine.L2
end
section
set_option maxRecDepth 100000
open PySem PySem.W PyProof.Rows PySem.Calls
set_option autoImplicit false
namespace Mine.L2
noncomputable def nm : Nat → Str := nmOf tbl
noncomputable def fns : List Str := [Str.ofString "fspath", Str.ofString "_get_sep", Str.ofString "join", Str.ofString "basename", Str.ofString "dirname", Str.ofString "sorted_list_difference", Str.ofString "_escape_cdata", Str.ofString "_escape_attrib", Str.ofString "_escape_attrib_html", Str.ofString "_escape_cdata_c14n", Str.ofString "_escape_attrib_c14n", Str.ofString "_law_drawn", Str.ofString "_law_told", Str.ofString "_law_written", Str.ofString "_law_due", Str.ofString "_law_walked", Str.ofString "law"]
noncomputable def fn : Nat → Str := nmOf fns
theorem nm_inj : ∀ i j, nm i = nm j → i = j := nmOf_inj (by decide +kernel) (by decide +kernel)
theorem nm_nmd : ∀ i, (nm i == "__debug__") = false ∧ (nm i == "__classdict__") = false := fun i => ⟨nmOf_ne (by decide +kernel) (by decide +kernel) i, nmOf_ne (by decide +kernel) (by decide +kernel) i⟩
theorem fn_fnd : ∀ i, (fn i == "__debug__") = false := fun i => nmOf_ne (by decide +kernel) (by decide +kernel) i
section
variable {prog : Program} {w : World}
noncomputable def dFfspath : FD := ⟨Str.ofString "fspath", true, sFfspath, bFfspath, pFfspath, (pdN 1)⟩
theorem tFfspath : Fun prog w nm fn (recAt pw "fspath").name (recAt pw "fspath").params (recAt pw "fspath").body dFfspath.sc dFfspath.b dFfspath.ps dFfspath.pd where
  bodyEq := by rfl
  nodup := by decide +kernel
  pnames := by decide +kernel
  kind := rfl
  names := by decide +kernel
  free := by decide +kernel
  put := by decide +kernel
  co := rfl
  gen := rfl
  bind := fun pm code doc => bind_plain 1 rfl fun us hu => by rcases us with _ | ⟨a, _ | ⟨b, r⟩⟩ <;> first | rfl | (simp at hu)
theorem nFfspath : (recAt pw "fspath").name = Str.ofString "fspath" ∧ (recAt pw "fspath").scope = dFfspath.sc := ⟨by rfl, by rfl⟩
noncomputable def dF_get_sep : FD := ⟨Str.ofString "_get_sep", true, sF_get_sep, bF_get_sep, pF_get_sep, (pdN 1)⟩
theorem tF_get_sep : Fun prog w nm fn (recAt pw "_get_sep").name (recAt pw "_get_sep").params (recAt pw "_get_sep").body dF_get_sep.sc dF_get_sep.b dF_get_sep.ps dF_get_sep.pd where
  bodyEq := by rfl
  nodup := by decide +kernel
  pnames := by decide +kernel
  kind := rfl
  names := by decide +kernel
  free := by decide +kernel
  put := by decide +kernel
  co := rfl
  gen := rfl
  bind := fun pm code doc => bind_plain 1 rfl fun us hu => by rcases us with _ | ⟨a, _ | ⟨b, r⟩⟩ <;> first | rfl | (simp at hu)
theorem nF_get_sep : (recAt pw "_get_sep").name = Str.ofString "_get_sep" ∧ (recAt pw "_get_sep").scope = dF_get_sep.sc := ⟨by rfl, by rfl⟩
noncomputable def dFjoin : FD := ⟨Str.ofString "join", true, sFjoin, bFjoin, pFjoin, pdJoin⟩
theorem tFjoin : Fun prog w nm fn (recAt pw "join").name (recAt pw "join").params (recAt pw "join").body dFjoin.sc dFjoin.b dFjoin.ps dFjoin.pd where
  bodyEq := by rfl
  nodup := by decide +kernel
  pnames := by decide +kernel
  kind := rfl
  names := by decide +kernel
  free := by decide +kernel
  put := by decide +kernel
  co := rfl
  gen := rfl
  bind := fun pm code doc => bind_join rfl fun v u => by rfl
theorem nFjoin : (recAt pw "join").name = Str.ofString "join" ∧ (recAt pw "join").scope = dFjoin.sc := ⟨by rfl, by rfl⟩
noncomputable def dFbasename : FD := ⟨Str.ofString "basename", true, sFbasename, bFbasename, pFbasename, (pdN 1)⟩
theorem tFbasename : Fun prog w nm fn (recAt pw "basename").name (recAt pw "basename").params (recAt pw "basename").body dFbasename.sc dFbasename.b dFbasename.ps dFbasename.pd where
  bodyEq := by rfl
  nodup := by decide +kernel
  pnames := by decide +kernel
  kind := rfl
  names := by decide +kernel
  free := by decide +kernel
  put := by decide +kernel
  co := rfl
  gen := rfl
  bind := fun pm code doc => bind_plain 1 rfl fun us hu => by rcases us with _ | ⟨a, _ | ⟨b, r⟩⟩ <;> first | rfl | (simp at hu)
theorem nFbasename : (recAt pw "basename").name = Str.ofString "basename" ∧ (recAt pw "basename").scope = dFbasename.sc := ⟨by rfl, by rfl⟩
noncomputable def dFdirname : FD := ⟨Str.ofString "dirname", true, sFdirname, bFdirname, pFdirname, (pdN 1)⟩
theorem tFdirname : Fun prog w nm fn (recAt pw "dirname").name (recAt pw "dirname").params (recAt pw "dirname").body dFdirname.sc dFdirname.b dFdirname.ps dFdirname.pd where
  bodyEq := by rfl
  nodup := by decide +kernel
  pnames := by decide +kernel
  kind := rfl
  names := by decide +kernel
  free := by decide +kernel
  put := by decide +kernel
  co := rfl
  gen := rfl
  bind := fun pm code doc => bind_plain 1 rfl fun us hu => by rcases us with _ | ⟨a, _ | ⟨b, r⟩⟩ <;> first | rfl | (simp at hu)
theorem nFdirname : (recAt pw "dirname").name = Str.ofString "dirname" ∧ (recAt pw "dirname").scope = dFdirname.sc := ⟨by rfl, by rfl⟩
noncomputable def dF_escape_cdata : FD := ⟨Str.ofString "_escape_cdata", true, sF_escape_cdata, bF_escape_cdata, pF_escape_cdata, (pdN 1)⟩
theorem tF_escape_cdata : Fun prog w nm fn (recAt pw "_escape_cdata").name (recAt pw "_escape_cdata").params (recAt pw "_escape_cdata").body dF_escape_cdata.sc dF_escape_cdata.b dF_escape_cdata.ps dF_escape_cdata.pd where
  bodyEq := by rfl
  nodup := by decide +kernel
  pnames := by decide +kernel
  kind := rfl
  names := by decide +kernel
  free := by decide +kernel
  put := by decide +kernel
  co := rfl
  gen := rfl
  bind := fun pm code doc => bind_plain 1 rfl fun us hu => by rcases us with _ | ⟨a, _ | ⟨b, r⟩⟩ <;> first | rfl | (simp at hu)
theorem nF_escape_cdata : (recAt pw "_escape_cdata").name = Str.ofString "_escape_cdata" ∧ (recAt pw "_escape_cdata").scope = dF_escape_cdata.sc := ⟨by rfl, by rfl⟩
noncomputable def dF_escape_attrib : FD := ⟨Str.ofString "_escape_attrib", true, sF_escape_attrib, bF_escape_attrib, pF_escape_attrib, (pdN 1)⟩
theorem tF_escape_attrib : Fun prog w nm fn (recAt pw "_escape_attrib").name (recAt pw "_escape_attrib").params (recAt pw "_escape_attrib").body dF_escape_attrib.sc dF_escape_attrib.b dF_escape_attrib.ps dF_escape_attrib.pd where
  bodyEq := by rfl
  nodup := by decide +kernel
  pnames := by decide +kernel
  kind := rfl
  names := by decide +kernel
  free := by decide +kernel
  put := by decide +kernel
  co := rfl
  gen := rfl
  bind := fun pm code doc => bind_plain 1 rfl fun us hu => by rcases us with _ | ⟨a, _ | ⟨b, r⟩⟩ <;> first | rfl | (simp at hu)
theorem nF_escape_attrib : (recAt pw "_escape_attrib").name = Str.ofString "_escape_attrib" ∧ (recAt pw "_escape_attrib").scope = dF_escape_attrib.sc := ⟨by rfl, by rfl⟩
noncomputable def dF_escape_attrib_html : FD := ⟨Str.ofString "_escape_attrib_html", true, sF_escape_attrib_html, bF_escape_attrib_html, pF_escape_attrib_html, (pdN 1)⟩
theorem tF_escape_attrib_html : Fun prog w nm fn (recAt pw "_escape_attrib_html").name (recAt pw "_escape_attrib_html").params (recAt pw "_escape_attrib_html").body dF_escape_attrib_html.sc dF_escape_attrib_html.b dF_escape_attrib_html.ps dF_escape_attrib_html.pd where
  bodyEq := by rfl
  nodup := by decide +kernel
  pnames := by decide +kernel
  kind := rfl
  names := by decide +kernel
  free := by decide +kernel
  put := by decide +kernel
  co := rfl
  gen := rfl
  bind := fun pm code doc => bind_plain 1 rfl fun us hu => by rcases us with _ | ⟨a, _ | ⟨b, r⟩⟩ <;> first | rfl | (simp at hu)
theorem nF_escape_attrib_html : (recAt pw "_escape_attrib_html").name = Str.ofString "_escape_attrib_html" ∧ (recAt pw "_escape_attrib_html").scope = dF_escape_attrib_html.sc := ⟨by rfl, by rfl⟩
noncomputable def dF_escape_cdata_c14n : FD := ⟨Str.ofString "_escape_cdata_c14n", true, sF_escape_cdata_c14n, bF_escape_cdata_c14n, pF_escape_cdata_c14n, (pdN 1)⟩
theorem tF_escape_cdata_c14n : Fun prog w nm fn (recAt pw "_escape_cdata_c14n").name (recAt pw "_escape_cdata_c14n").params (recAt pw "_escape_cdata_c14n").body dF_escape_cdata_c14n.sc dF_escape_cdata_c14n.b dF_escape_cdata_c14n.ps dF_escape_cdata_c14n.pd where
  bodyEq := by rfl
  nodup := by decide +kernel
  pnames := by decide +kernel
  kind := rfl
  names := by decide +kernel
  free := by decide +kernel
  put := by decide +kernel
  co := rfl
  gen := rfl
  bind := fun pm code doc => bind_plain 1 rfl fun us hu => by rcases us with _ | ⟨a, _ | ⟨b, r⟩⟩ <;> first | rfl | (simp at hu)
theorem nF_escape_cdata_c14n : (recAt pw "_escape_cdata_c14n").name = Str.ofString "_escape_cdata_c14n" ∧ (recAt pw "_escape_cdata_c14n").scope = dF_escape_cdata_c14n.sc := ⟨by rfl, by rfl⟩
noncomputable def dF_escape_attrib_c14n : FD := ⟨Str.ofString "_escape_attrib_c14n", true, sF_escape_attrib_c14n, bF_escape_attrib_c14n, pF_escape_attrib_c14n, (pdN 1)⟩
theorem tF_escape_attrib_c14n : Fun prog w nm fn (recAt pw "_escape_attrib_c14n").name (recAt pw "_escape_attrib_c14n").params (recAt pw "_escape_attrib_c14n").body dF_escape_attrib_c14n.sc dF_escape_attrib_c14n.b dF_escape_attrib_c14n.ps dF_escape_attrib_c14n.pd where
  bodyEq := by rfl
  nodup := by decide +kernel
  pnames := by decide +kernel
  kind := rfl
  names := by decide +kernel
  free := by decide +kernel
  put := by decide +kernel
  co := rfl
  gen := rfl
  bind := fun pm code doc => bind_plain 1 rfl fun us hu => by rcases us with _ | ⟨a, _ | ⟨b, r⟩⟩ <;> first | rfl | (simp at hu)
theorem nF_escape_attrib_c14n : (recAt pw "_escape_attrib_c14n").name = Str.ofString "_escape_attrib_c14n" ∧ (recAt pw "_escape_attrib_c14n").scope = dF_escape_attrib_c14n.sc := ⟨by rfl, by rfl⟩
noncomputable def dF_law_drawn : FD := ⟨Str.ofString "_law_drawn", true, sF_law_drawn, bF_law_drawn, pF_law_drawn, (pdN 1)⟩
theorem tF_law_drawn : Fun prog w nm fn (recAt pw "_law_drawn").name (recAt pw "_law_drawn").params (recAt pw "_law_drawn").body dF_law_drawn.sc dF_law_drawn.b dF_law_drawn.ps dF_law_drawn.pd where
  bodyEq := by rfl
  nodup := by decide +kernel
  pnames := by decide +kernel
  kind := rfl
  names := by decide +kernel
  free := by decide +kernel
  put := by decide +kernel
  co := rfl
  gen := rfl
  bind := fun pm code doc => bind_plain 1 rfl fun us hu => by rcases us with _ | ⟨a, _ | ⟨b, r⟩⟩ <;> first | rfl | (simp at hu)
theorem nF_law_drawn : (recAt pw "_law_drawn").name = Str.ofString "_law_drawn" ∧ (recAt pw "_law_drawn").scope = dF_law_drawn.sc := ⟨by rfl, by rfl⟩
noncomputable def dF_law_told : FD := ⟨Str.ofString "_law_told", true, sF_law_told, bF_law_told, pF_law_told, (pdN 2)⟩
theorem tF_law_told : Fun prog w nm fn (recAt pw "_law_told").name (recAt pw "_law_told").params (recAt pw "_law_told").body dF_law_told.sc dF_law_told.b dF_law_told.ps dF_law_told.pd where
  bodyEq := by rfl
  nodup := by decide +kernel
  pnames := by decide +kernel
  kind := rfl
  names := by decide +kernel
  free := by decide +kernel
  put := by decide +kernel
  co := rfl
  gen := rfl
  bind := fun pm code doc => bind_plain 2 rfl fun us hu => by rcases us with _ | ⟨a, _ | ⟨b, _ | ⟨c, r⟩⟩⟩ <;> first | rfl | (simp at hu)
theorem nF_law_told : (recAt pw "_law_told").name = Str.ofString "_law_told" ∧ (recAt pw "_law_told").scope = dF_law_told.sc := ⟨by rfl, by rfl⟩
noncomputable def dF_law_written : FD := ⟨Str.ofString "_law_written", true, sF_law_written, bF_law_written, pF_law_written, (pdN 2)⟩
theorem tF_law_written : Fun prog w nm fn (recAt pw "_law_written").name (recAt pw "_law_written").params (recAt pw "_law_written").body dF_law_written.sc dF_law_written.b dF_law_written.ps dF_law_written.pd where
  bodyEq := by rfl
  nodup := by decide +kernel
  pnames := by decide +kernel
  kind := rfl
  names := by decide +kernel
  free := by decide +kernel
  put := by decide +kernel
  co := rfl
  gen := rfl
  bind := fun pm code doc => bind_plain 2 rfl fun us hu => by rcases us with _ | ⟨a, _ | ⟨b, _ | ⟨c, r⟩⟩⟩ <;> first | rfl | (simp at hu)
theorem nF_law_written : (recAt pw "_law_written").name = Str.ofString "_law_written" ∧ (recAt pw "_law_written").scope = dF_law_written.sc := ⟨by rfl, by rfl⟩
noncomputable def dF_law_due : FD := ⟨Str.ofString "_law_due", true, sF_law_due, bF_law_due, pF_law_due, (pdN 2)⟩
theorem tF_law_due : Fun prog w nm fn (recAt pw "_law_due").name (recAt pw "_law_due").params (recAt pw "_law_due").body dF_law_due.sc dF_law_due.b dF_law_due.ps dF_law_due.pd where
  bodyEq := by rfl
  nodup := by decide +kernel
  pnames := by decide +kernel
  kind := rfl
  names := by decide +kernel
  free := by decide +kernel
  put := by decide +kernel
  co := rfl
  gen := rfl
  bind := fun pm code doc => bind_plain 2 rfl fun us hu => by rcases us with _ | ⟨a, _ | ⟨b, _ | ⟨c, r⟩⟩⟩ <;> first | rfl | (simp at hu)
theorem nF_law_due : (recAt pw "_law_due").name = Str.ofString "_law_due" ∧ (recAt pw "_law_due").scope = dF_law_due.sc := ⟨by rfl, by rfl⟩
noncomputable def dF_law_walked : FD := ⟨Str.ofString "_law_walked", false, sF_law_walked, bF_law_walked, pF_law_walked, (pdN 3)⟩
theorem tF_law_walked : Fun prog w nm fn (recAt pw "_law_walked").name (recAt pw "_law_walked").params (recAt pw "_law_walked").body dF_law_walked.sc dF_law_walked.b dF_law_walked.ps dF_law_walked.pd where
  bodyEq := by rfl
  nodup := by decide +kernel
  pnames := by decide +kernel
  kind := rfl
  names := by decide +kernel
  free := by decide +kernel
  put := by decide +kernel
  co := rfl
  gen := rfl
  bind := fun pm code doc => bind_plain 3 rfl fun us hu => by rcases us with _ | ⟨a, _ | ⟨b, _ | ⟨c, _ | ⟨d, r⟩⟩⟩⟩ <;> first | rfl | (simp at hu)
theorem nF_law_walked : (recAt pw "_law_walked").name = Str.ofString "_law_walked" ∧ (recAt pw "_law_walked").scope = dF_law_walked.sc := ⟨by rfl, by rfl⟩
noncomputable def dFlaw : FD := ⟨Str.ofString "law", false, sFlaw, bFlaw, pFlaw, (pdN 1)⟩
theorem tFlaw : Fun prog w nm fn (recAt pw "law").name (recAt pw "law").params (recAt pw "law").body dFlaw.sc dFlaw.b dFlaw.ps dFlaw.pd where
  bodyEq := by rfl
  nodup := by decide +kernel
  pnames := by decide +kernel
  kind := rfl
  names := by decide +kernel
  free := by decide +kernel
  put := by decide +kernel
  co := rfl
  gen := rfl
  bind := fun pm code doc => bind_plain 1 rfl fun us hu => by rcases us with _ | ⟨a, _ | ⟨b, r⟩⟩ <;> first | rfl | (simp at hu)
theorem nFlaw : (recAt pw "law").name = Str.ofString "law" ∧ (recAt pw "law").scope = dFlaw.sc := ⟨by rfl, by rfl⟩
end
end Mine.L2
end
section
set_option maxRecDepth 100000
open PySem PySem.W PyProof.Rows PySem.Calls
set_option autoImplicit false
namespace Mine.L2
noncomputable def FT0 : List FE := []
noncomputable def FT1 : List FE := FT0 ++ [dFfspath.fe nm fn FT0]
noncomputable def FT2 : List FE := FT1 ++ [dF_get_sep.fe nm fn FT1]
noncomputable def FT3 : List FE := FT2 ++ [dFjoin.fe nm fn FT2]
noncomputable def FT4 : List FE := FT3 ++ [dFbasename.fe nm fn FT3]
noncomputable def FT5 : List FE := FT4 ++ [dFdirname.fe nm fn FT4]
noncomputable def FT6 : List FE := FT5 ++ [sldFE]
noncomputable def FT7 : List FE := FT6 ++ [dF_escape_cdata.fe nm fn FT6]
noncomputable def FT8 : List FE := FT7 ++ [dF_escape_attrib.fe nm fn FT7]
noncomputable def FT9 : List FE := FT8 ++ [dF_escape_attrib_html.fe nm fn FT8]
noncomputable def FT10 : List FE := FT9 ++ [dF_escape_cdata_c14n.fe nm fn FT9]
noncomputable def FT11 : List FE := FT10 ++ [dF_escape_attrib_c14n.fe nm fn FT10]
noncomputable def FT12 : List FE := FT11 ++ [dF_law_drawn.fe nm fn FT11]
noncomputable def FT13 : List FE := FT12 ++ [dF_law_told.fe nm fn FT12]
noncomputable def FT14 : List FE := FT13 ++ [dF_law_written.fe nm fn FT13]
noncomputable def FT15 : List FE := FT14 ++ [dF_law_due.fe nm fn FT14]
noncomputable def FT16 : List FE := FT15 ++ [dF_law_walked.fe nm fn FT15]
noncomputable def FT17 : List FE := FT16 ++ [dFlaw.fe nm fn FT16]
end Mine.L2
end
section
set_option maxRecDepth 100000
open PySem PySem.W PyProof.Rows PySem.Calls
set_option autoImplicit false
namespace Mine
noncomputable def swapC (nm : Nat → Str) (i : Nat) (sc' : Scope) : Bool := !(sc'.names.any fun (n, k) => n == nm i && (k == .local || k == .cell))
theorem Q.swl (nm : Nat → Str) (i : Nat) (e : X) (gs : GS) (sc' : Scope) (p : Pos) : swapOk nm i (.lcomp e gs sc' p) = swapC nm i sc' := rfl
theorem Q.swd (nm : Nat → Str) (i : Nat) (k v : X) (gs : GS) (sc' : Scope) (p : Pos) : swapOk nm i (.dcomp k v gs sc' p) = swapC nm i sc' := rfl
end Mine
end
section
set_option maxRecDepth 100000
open PySem PySem.W PyProof.Rows PySem.Calls
set_option autoImplicit false
namespace Mine.L2
theorem kfspath : putK nm sFfspath 1 = true ∧
    isG sFfspath (Bi.py .type) = true ∧
    isG sFfspath (Str.ofString "issubclass") = true ∧
    isG sFfspath (Str.ofString "str") = true ∧
    isG sFfspath (Str.ofString "bytes") = true := by
  exact ⟨by decide +kernel, by decide +kernel, by decide +kernel, by decide +kernel, by decide +kernel⟩
theorem k_get_sep : isG sF_get_sep (Str.ofString "isinstance") = true ∧
    isG sF_get_sep (Str.ofString "bytes") = true := by
  exact ⟨by decide +kernel, by decide +kernel⟩
theorem kjoin : putK nm sFjoin 2 = true ∧
    isG sFjoin (fn 0) = true ∧
    putK nm sFjoin 4 = true ∧
    isG sFjoin (fn 1) = true ∧
    putK nm sFjoin 0 = true ∧
    putK nm sFjoin 5 = true := by
  exact ⟨by decide +kernel, by decide +kernel, by decide +kernel, by decide +kernel, by decide +kernel, by decide +kernel⟩
theorem kbasename : putK nm sFbasename 3 = true ∧
    isG sFbasename (fn 0) = true ∧
    putK nm sFbasename 4 = true ∧
    isG sFbasename (fn 1) = true ∧
    putK nm sFbasename 6 = true := by
  exact ⟨by decide +kernel, by decide +kernel, by decide +kernel, by decide +kernel, by decide +kernel⟩
theorem kdirname : putK nm sFdirname 3 = true ∧
    isG sFdirname (fn 0) = true ∧
    putK nm sFdirname 4 = true ∧
    isG sFdirname (fn 1) = true ∧
    putK nm sFdirname 6 = true ∧
    putK nm sFdirname 7 = true ∧
    isG sFdirname (Bi.py .len) = true := by
  exact ⟨by decide +kernel, by decide +kernel, by decide +kernel, by decide +kernel, by decide +kernel, by decide +kernel, by decide +kernel⟩
theorem k_law_drawn : putK nm sF_law_drawn 10 = true ∧
    putK nm sF_law_drawn 11 = true ∧
    putK nm sF_law_drawn 12 = true ∧
    isG sF_law_drawn (Bi.py .enumerate) = true ∧
    putK nm sF_law_drawn 13 = true ∧
    putK nm sF_law_drawn 14 = true ∧
    swapC nm 14 sc0 = true ∧
    compOk sF_law_drawn sc0 = true ∧
    varsOk nm sc0 (.cons (.one 11 ⟨212,48,212,49⟩) (.bi .range ⟨212,53,212,58⟩ (.cons (.int (5) 0 ⟨212,59,212,60⟩) .nil) ⟨212,53,212,61⟩) .nil .nil) = true ∧
    (∀ r, inner nm sc0 r 10 = r 10) ∧
    (∀ r, inner nm sc0 r 13 = r 13) ∧
    isG sF_law_drawn (Bi.py .range) = true ∧
    putK nm sF_law_drawn 15 = true ∧
    putK nm sF_law_drawn 16 = true ∧
    putK nm sF_law_drawn 17 = true ∧
    putK nm sF_law_drawn 18 = true ∧
    putK nm sF_law_drawn 19 = true ∧
    isG sF_law_drawn (Bi.py .divmod) = true := by
  exact ⟨by decide +kernel, by decide +kernel, by decide +kernel, by decide +kernel, by decide +kernel, by decide +kernel, by decide +kernel, by decide +kernel, by decide +kernel, fun r => by first | rfl | (show (if _ then _ else _) = _; rw [if_pos (by decide +kernel)]), fun r => by first | rfl | (show (if _ then _ else _) = _; rw [if_pos (by decide +kernel)]), by decide +kernel, by decide +kernel, by decide +kernel, by decide +kernel, by decide +kernel, by decide +kernel, by decide +kernel⟩
theorem k_law_due : putK nm sF_law_due 23 = true ∧
    putK nm sF_law_due 24 = true ∧
    putK nm sF_law_due 25 = true ∧
    compOk sF_law_due sc2 = true ∧
    varsOk nm sc2 (.cons (.one 11 ⟨237,53,237,54⟩) (.bi .range ⟨237,58,237,63⟩ (.cons (.int (1) 0 ⟨237,64,237,65⟩) (.cons (.int (6) 0 ⟨237,67,237,68⟩) .nil)) ⟨237,58,237,69⟩) .nil .nil) = true ∧
    (∀ r, inner nm sc2 r 15 = r 15) ∧
    (∀ r, inner nm sc2 r 23 = r 23) ∧
    isG sF_law_due (Bi.py .range) = true ∧
    putK nm sF_law_due 11 = true ∧
    putK nm sF_law_due 26 = true ∧
    putK nm sF_law_due 27 = true ∧
    putK nm sF_law_due 0 = true ∧
    compOk sF_law_due sc3 = true ∧
    varsOk nm sc3 (.cons (.one 11 ⟨255,34,255,35⟩) (.bi .range ⟨255,39,255,44⟩ (.cons (.int (1) 0 ⟨255,45,255,46⟩) (.cons (.int (6) 0 ⟨255,48,255,49⟩) .nil)) ⟨255,39,255,50⟩) .nil .nil) = true ∧
    GS.single (.cons (.one 11 ⟨255,34,255,35⟩) (.bi .range ⟨255,39,255,44⟩ (.cons (.int (1) 0 ⟨255,45,255,46⟩) (.cons (.int (6) 0 ⟨255,48,255,49⟩) .nil)) ⟨255,39,255,50⟩) .nil .nil) = true ∧
    (∀ r, inner nm sc3 r 22 = r 22) ∧
    (∀ r, inner nm sc3 r 23 = r 23) := by
  exact ⟨by decide +kernel, by decide +kernel, by decide +kernel, by decide +kernel, by decide +kernel, fun r => by first | rfl | (show (if _ then _ else _) = _; rw [if_pos (by decide +kernel)]), fun r => by first | rfl | (show (if _ then _ else _) = _; rw [if_pos (by decide +kernel)]), by decide +kernel, by decide +kernel, by decide +kernel, by decide +kernel, by decide +kernel, by decide +kernel, by decide +kernel, by decide +kernel, fun r => by first | rfl | (show (if _ then _ else _) = _; rw [if_pos (by decide +kernel)]), fun r => by first | rfl | (show (if _ then _ else _) = _; rw [if_pos (by decide +kernel)])⟩
theorem k_law_walked : putK nm sF_law_walked 29 = true ∧
    swapC nm 29 sc5 = true ∧
    compOk sF_law_walked sc5 = true ∧
    varsOk nm sc5 (.cons (.one 11 ⟨257,64,257,65⟩) (.bi .range ⟨257,69,257,74⟩ (.cons (.int (1) 0 ⟨257,75,257,76⟩) (.cons (.int (6) 0 ⟨257,78,257,79⟩) .nil)) ⟨257,69,257,80⟩) .nil .nil) = true ∧
    GS.single (.cons (.one 11 ⟨257,64,257,65⟩) (.bi .range ⟨257,69,257,74⟩ (.cons (.int (1) 0 ⟨257,75,257,76⟩) (.cons (.int (6) 0 ⟨257,78,257,79⟩) .nil)) ⟨257,69,257,80⟩) .nil .nil) = true ∧
    (∀ r, inner nm sc5 r 15 = r 15) ∧
    (∀ r, inner nm sc5 r 28 = r 28) ∧
    isG sF_law_walked (Bi.py .range) = true ∧
    compOk (rel sF_law_walked sc5) sc4 = true ∧
    varsOk nm sc4 (.cons (.one 30 ⟨257,37,257,38⟩) (.item (.var 15 ⟨257,42,257,48⟩) (.var 11 ⟨257,49,257,50⟩) ⟨257,42,257,51⟩) .nil .nil) = true ∧
    (∀ r, inner nm sc4 r 28 = r 28) ∧
    putK nm sF_law_walked 23 = true ∧
    swapC nm 23 sc6 = true ∧
    compOk sF_law_walked sc6 = true ∧
    varsOk nm sc6 (.cons (.one 31 ⟨258,24,258,28⟩) (.slice (.var 28 ⟨258,32,258,37⟩) (.some (.int (1) 0 ⟨258,38,258,39⟩)) .none ⟨258,38,258,40⟩ ⟨258,32,258,41⟩) .nil .nil) = true ∧
    GS.single (.cons (.one 31 ⟨258,24,258,28⟩) (.slice (.var 28 ⟨258,32,258,37⟩) (.some (.int (1) 0 ⟨258,38,258,39⟩)) .none ⟨258,38,258,40⟩ ⟨258,32,258,41⟩) .nil .nil) = true ∧
    putK nm sF_law_walked 27 = true ∧
    putK nm sF_law_walked 0 = true ∧
    putK nm sF_law_walked 32 = true ∧
    putK nm sF_law_walked 33 = true ∧
    isG sF_law_walked (fn 5) = true ∧
    isG sF_law_walked (Bi.py .sorted) = true ∧
    putK nm sF_law_walked 17 = true ∧
    putK nm sF_law_walked 18 = true ∧
    isG sF_law_walked (Bi.py .divmod) = true ∧
    isG sF_law_walked (Bi.py .len) = true ∧
    isG sF_law_walked (fn 2) = true ∧
    putK nm sF_law_walked 34 = true ∧
    putK nm sF_law_walked 19 = true ∧
    isG sF_law_walked (fn 3) = true ∧
    putK nm sF_law_walked 31 = true ∧
    putK nm sF_law_walked 24 = true ∧
    isG sF_law_walked (fn 4) = true := by
  exact ⟨by decide +kernel, by decide +kernel, by decide +kernel, by decide +kernel, by decide +kernel, fun r => by first | rfl | (show (if _ then _ else _) = _; rw [if_pos (by decide +kernel)]), fun r => by first | rfl | (show (if _ then _ else _) = _; rw [if_pos (by decide +kernel)]), by decide +kernel, by decide +kernel, by decide +kernel, fun r => by first | rfl | (show (if _ then _ else _) = _; rw [if_pos (by decide +kernel)]), by decide +kernel, by decide +kernel, by decide +kernel, by decide +kernel, by decide +kernel, by decide +kernel, by decide +kernel, by decide +kernel, by decide +kernel, by decide +kernel, by decide +kernel, by decide +kernel, by decide +kernel, by decide +kernel, by decide +kernel, by decide +kernel, by decide +kernel, by decide +kernel, by decide +kernel, by decide +kernel, by decide +kernel, by decide +kernel⟩
theorem klaw : putK nm sFlaw 1 = true ∧
    putK nm sFlaw 14 = true ∧
    putK nm sFlaw 15 = true ∧
    putK nm sFlaw 17 = true ∧
    isG sFlaw (fn 11) = true ∧
    putK nm sFlaw 28 = true ∧
    compOk sFlaw sc7 = true ∧
    varsOk nm sc7 (.cons (.one 8 ⟨286,49,286,53⟩) (.var 14 ⟨286,57,286,62⟩) .nil .nil) = true ∧
    (∀ r, inner nm sc7 r 1 = r 1) ∧
    isG (rel sFlaw sc7) (fn 13) = true ∧
    putK nm sFlaw 22 = true ∧
    compOk sFlaw sc8 = true ∧
    varsOk nm sc8 (.cons (.one 8 ⟨287,45,287,49⟩) (.var 14 ⟨287,53,287,58⟩) .nil .nil) = true ∧
    (∀ r, inner nm sc8 r 1 = r 1) ∧
    isG (rel sFlaw sc8) (fn 12) = true ∧
    isG sFlaw (fn 15) = true ∧
    isG sFlaw (fn 14) = true := by
  exact ⟨by decide +kernel, by decide +kernel, by decide +kernel, by decide +kernel, by decide +kernel, by decide +kernel, by decide +kernel, by decide +kernel, fun r => by first | rfl | (show (if _ then _ else _) = _; rw [if_pos (by decide +kernel)]), by decide +kernel, by decide +kernel, by decide +kernel, by decide +kernel, fun r => by first | rfl | (show (if _ then _ else _) = _; rw [if_pos (by decide +kernel)]), by decide +kernel, by decide +kernel, by decide +kernel⟩
noncomputable def E0 : FE := dFfspath.fe nm fn FT0
theorem e0_g (ds : List D) : E0.g ds = gOf nm fn FT0 sFfspath dFfspath.exact bFfspath pFfspath dFfspath.pd ds := rfl
theorem e0_x : E0.exact = dFfspath.exact := rfl
noncomputable def E1 : FE := dF_get_sep.fe nm fn FT1
theorem e1_g (ds : List D) : E1.g ds = gOf nm fn FT1 sF_get_sep dF_get_sep.exact bF_get_sep pF_get_sep dF_get_sep.pd ds := rfl
theorem e1_x : E1.exact = dF_get_sep.exact := rfl
noncomputable def E2 : FE := dFjoin.fe nm fn FT2
theorem e2_g (ds : List D) : E2.g ds = gOf nm fn FT2 sFjoin dFjoin.exact bFjoin pFjoin dFjoin.pd ds := rfl
noncomputable def E3 : FE := dFbasename.fe nm fn FT3
theorem e3_g (ds : List D) : E3.g ds = gOf nm fn FT3 sFbasename dFbasename.exact bFbasename pFbasename dFbasename.pd ds := rfl
noncomputable def E4 : FE := dFdirname.fe nm fn FT4
theorem e4_g (ds : List D) : E4.g ds = gOf nm fn FT4 sFdirname dFdirname.exact bFdirname pFdirname dFdirname.pd ds := rfl
noncomputable def E5 : FE := sldFE
noncomputable def E6 : FE := dF_escape_cdata.fe nm fn FT6
noncomputable def E7 : FE := dF_escape_attrib.fe nm fn FT7
noncomputable def E8 : FE := dF_escape_attrib_html.fe nm fn FT8
noncomputable def E9 : FE := dF_escape_cdata_c14n.fe nm fn FT9
noncomputable def E10 : FE := dF_escape_attrib_c14n.fe nm fn FT10
noncomputable def E11 : FE := dF_law_drawn.fe nm fn FT11
theorem e11_g (ds : List D) : E11.g ds = gOf nm fn FT11 sF_law_drawn dF_law_drawn.exact bF_law_drawn pF_law_drawn dF_law_drawn.pd ds := rfl
noncomputable def E12 : FE := dF_law_told.fe nm fn FT12
noncomputable def E13 : FE := dF_law_written.fe nm fn FT13
noncomputable def E14 : FE := dF_law_due.fe nm fn FT14
theorem e14_g (ds : List D) : E14.g ds = gOf nm fn FT14 sF_law_due dF_law_due.exact bF_law_due pF_law_due dF_law_due.pd ds := rfl
noncomputable def E15 : FE := dF_law_walked.fe nm fn FT15
theorem e15_g (ds : List D) : E15.g ds = gOf nm fn FT15 sF_law_walked dF_law_walked.exact bF_law_walked pF_law_walked dF_law_walked.pd ds := rfl
noncomputable def E16 : FE := dFlaw.fe nm fn FT16
theorem e16_g (ds : List D) : E16.g ds = gOf nm fn FT16 sFlaw dFlaw.exact bFlaw pFlaw dFlaw.pd ds := rfl
theorem ft2 : FT2[0]? = some E0 ∧ FT2[1]? = some E1 := ⟨rfl, rfl⟩
theorem ft3 : FT3[0]? = some E0 ∧ FT3[1]? = some E1 := ⟨rfl, rfl⟩
theorem ft4 : FT4[0]? = some E0 ∧ FT4[1]? = some E1 := ⟨rfl, rfl⟩
theorem ft15 : FT15[2]? = some E2 ∧ FT15[3]? = some E3 ∧ FT15[4]? = some E4 ∧ FT15[5]? = some E5 := ⟨rfl, rfl, rfl, rfl⟩
theorem ft16 : FT16[11]? = some E11 ∧ FT16[12]? = some E12 ∧ FT16[13]? = some E13 ∧ FT16[14]? = some E14 ∧ FT16[15]? = some E15 := ⟨rfl, rfl, rfl, rfl, rfl⟩
end Mine.L2
end
section
set_option maxRecDepth 100000
open PySem PySem.W PyProof.Rows PySem.Calls
set_option autoImplicit false
namespace Mine
namespace Q
theorem sr_l (ds : List D) (t : Bool) : srcOf (some (.lst ds, t)) = if ds.length ≤ listLine then some (ds, t, false) else none := rfl
theorem sr_t (ds : List D) (t : Bool) : srcOf (some (.tup ds, t)) = if ds.length ≤ listLine then some (ds, t, false) else none := rfl
theorem sr_s (x : Str) (t : Bool) : srcOf (some (.str x, t)) = if x.length ≤ strLine then some (x.cps.toList.map fun c => .str ⟨#[c]⟩, false, false) else none := rfl
theorem ba_var (i : Nat) (p : Pos) : X.base (.var i p) = true := rfl
theorem ba_str (x : Str) (i : Nat) (p : Pos) : X.base (.str x i p) = true := rfl
theorem ba_item (a b : X) (p : Pos) : X.base (.item a b p) = true := rfl
theorem nt_bi (b : Bi) (fp : Pos) (as : XS) (p : Pos) : notTup (.bi b fp as p) = true := rfl
theorem nt_call (f : Nat) (fp : Pos) (as : XS) (p : Pos) : notTup (.call f fp as p) = true := rfl
theorem cl_nil {β : Type} (f : D → Option (List β)) : collectM f [] = some [] := rfl
theorem cl_cons {β : Type} (f : D → Option (List β)) (d : D) (r : List D) : collectM f (d :: r) = (match f d, collectM f r with
    | some x, some y => some (x ++ y)
    | _, _ => none) := rfl
theorem kv_nil : kvsOf [] = some [] := rfl
theorem kv_cons (x : Str) (d : D) (r : List D) : kvsOf (.tup [.str x, d] :: r) = (kvsOf r).map ((x, d) :: ·) := rfl
theorem addI (a b : Int) : binD .add (.int a) (.int b) = some (.int (a + b)) := rfl
theorem addS (a b : Str) : binD .add (.str a) (.str b) = if a.length + b.length ≤ strLine then some (.str (a ++ b)) else none := rfl
theorem addL (a b : List D) : binD .add (.lst a) (.lst b) = if a.length + b.length ≤ listLine then some (.lst (a ++ b)) else none := rfl
theorem mulS (a : Str) (n : Int) : binD .mul (.str a) (.int n) = if a.length ≤ 16 ∧ 0 ≤ n ∧ n ≤ 100000 then some (.str (Txt.mul a n)) else none := rfl
theorem fdivI (a b : Int) : binD .fdiv (.int a) (.int b) = if b ≠ 0 ∧ a.natAbs < 2 ^ 62 ∧ b.natAbs < 2 ^ 62 then some (.int (a.fdiv b)) else none := rfl
theorem modI (a b : Int) : binD .mod (.int a) (.int b) = if b ≠ 0 then some (.int (a.fmod b)) else none := rfl
theorem neI (a b : Int) : cmpD .ne (.int a) (.int b) = some (a != b) := rfl
theorem eqS (a b : Str) : cmpD .eq (.str a) (.str b) = some (a == b) := rfl
theorem neS (a b : Str) : cmpD .ne (.str a) (.str b) = some (a != b) := rfl
theorem eqE (a : List D) : cmpD .eq (.lst a) (.lst []) = some (isNil a) := rfl
theorem neE (a : List D) : cmpD .ne (.lst a) (.lst []) = some (!isNil a) := rfl
theorem isIn (a b : D) : cmpD .isIn a b = inD a b := by unfold cmpD; rfl
theorem inSL (x : Str) (ds : List D) : inD (.str x) (.lst ds) = (strsOf ds).map fun ys => ys.any fun y => y == x := rfl
theorem inSD (x : Str) (ks : List Str) (ds : List D) : inD (.str x) (.dct ks ds) = some (ks.contains x) := rfl
theorem tB (b : Bool) : truthD (.bool b) = some b := rfl
theorem tS (x : Str) : truthD (.str x) = if x.length ≤ strLine then some (!decide (x.length = 0)) else none := by
  show (if x.length ≤ strLine then some ((x.length : Int) != 0) else none) = _
  congr 2
  by_cases h : x.length = 0
  · rw [h]; rfl
  · rw [decide_eq_false h]
    exact bne_iff_ne.mpr (by omega)
theorem itL (ds : List D) (i : Int) : itemD (.lst ds) (.int i) = (idxOf i ds.length).bind fun k => if ds.length ≤ listLine then ds[k]? else none := rfl
theorem slL (ds : List D) (lo hi : Option D) : sliceD (.lst ds) lo hi = (match cutAt ds.length lo 0, cutAt ds.length hi ds.length with
    | some i, some j => if ds.length ≤ listLine then some (.lst ((ds.take j).drop i)) else none
    | _, _ => none) := rfl
theorem slS (x : Str) (lo hi : Option D) : sliceD (.str x) lo hi = (match partO lo, partO hi with
    | some i, some j => if x.length ≤ strLine then some (.str (Txt.slice x i j)) else none
    | _, _ => none) := rfl
theorem cutN (n d : Nat) : cutAt n none d = some d := rfl
theorem cutI (n d : Nat) (i : Int) : cutAt n (some (.int i)) d = if 0 ≤ i then some (min i.toNat n) else none := rfl
theorem poN : partO none = some none := rfl
theorem poI (i : Int) : partO (some (.int i)) = some (some i) := rfl
theorem lenL (ds : List D) : biD .len [.lst ds] = if ds.length ≤ listLine then some (.int ds.length) else none := rfl
theorem lenS (x : Str) : biD .len [.str x] = if x.length ≤ strLine then some (.int x.length) else none := rfl
theorem srtL (ds : List D) : biD .sorted [.lst ds] = (strsOf ds).bind fun xs => if xs.length < 64 then some (.lst ((sortS xs).map .str)) else none := rfl
theorem srtD (ks : List Str) (ds : List D) : biD .sorted [.dct ks ds] = if ks.length < 64 then some (.lst ((sortS ks).map .str)) else none := rfl
theorem dvI (a b : Int) : biD .divmod [.int a, .int b] = if b ≠ 0 ∧ a.natAbs < 2 ^ 62 ∧ b.natAbs < 2 ^ 62 then some (.tup [.int (a.fdiv b), .int (a.fmod b)]) else none := rfl
theorem tyS (x : Str) : biD .type [.str x] = some (.ty "str") := rfl
theorem mrf (x y : Str) : meD .rfind (.str x) [.str y] = some (.int (Txt.rfind x y)) := rfl
theorem msw (x y : Str) : meD .startswith (.str x) [.str y] = some (.bool (Txt.startswith x y)) := rfl
theorem mew (x y : Str) : meD .endswith (.str x) [.str y] = some (.bool (Txt.endswith x y)) := rfl
theorem mrs (x y : Str) : meD .rstrip (.str x) [.str y] = if x.length ≤ strLine then some (.str (Txt.rstripChars x y)) else none := rfl
theorem msp (x y : Str) : meD .split (.str x) [.str y] = if x.length ≤ strLine ∧ y.length ≠ 0 then some (.lst ((Txt.split x y).map .str)) else none := rfl
theorem mix (ds : List D) (x : Str) : meD .index (.lst ds) [.str x] = (strsOf ds).bind fun ys => if ys.length ≤ 1000 ∧ x ∈ ys then some (.int (ys.idxOf x)) else none := rfl
theorem itV_ff (d : D) : itV d false = (d, false) := rfl
theorem itV_i (i : Int) (t : Bool) : itV (.int i) t = (.int i, false) := by cases t <;> rfl
theorem itV_s (x : Str) (t : Bool) : itV (.str x) t = (.str x, false) := by cases t <;> rfl
theorem unt_nil : untaint [] = true := rfl
theorem unt_cons (v : V) (vs : List V) : untaint (v :: vs) = (!v.2 && untaint vs) := rfl
theorem rho (S : Sta) (i : Nat) (sl : Slot) (h : S i = some sl) : rhoOf S i = some (sl.d, sl.own) := by unfold rhoOf; rw [h]
theorem rho_put (S : Sta) (i j : Nat) (sl : Slot) : rhoOf (S.put i sl) j = if j = i then some (sl.d, sl.own) else rhoOf S j := by
  unfold rhoOf Sta.put; by_cases h : j = i
  · rw [if_pos h, if_pos h]
  · rw [if_neg h, if_neg h]
theorem sw_var (nm : Nat → Str) (j : Nat) (i : Nat) (p : Pos) : swapOk nm j (.var i p) = true := rfl
theorem sw_str (nm : Nat → Str) (j : Nat) (x : Str) (k : Nat) (p : Pos) : swapOk nm j (.str x k p) = true := rfl
theorem sw_bin (nm : Nat → Str) (j : Nat) (op : BOp) (a b : X) (p : Pos) : swapOk nm j (.bin op a b p) = true := rfl
theorem sw_item (nm : Nat → Str) (j : Nat) (a b : X) (p : Pos) : swapOk nm j (.item a b p) = true := rfl
theorem sw_slice (nm : Nat → Str) (j : Nat) (a : X) (lo hi : OX) (ps p : Pos) : swapOk nm j (.slice a lo hi ps p) = true := rfl
theorem sw_list (nm : Nat → Str) (j : Nat) (es : XS) (p : Pos) : swapOk nm j (.list es p) = true := rfl
theorem sw_dict (nm : Nat → Str) (j : Nat) (ks vs : XS) (p : Pos) : swapOk nm j (.dict ks vs p) = true := rfl
theorem sw_call (nm : Nat → Str) (j : Nat) (f : Nat) (fp : Pos) (as : XS) (p : Pos) : swapOk nm j (.call f fp as p) = true := rfl
theorem sw_bi (nm : Nat → Str) (j : Nat) (b : Bi) (fp : Pos) (as : XS) (p : Pos) : swapOk nm j (.bi b fp as p) = true := rfl
theorem sw_meth (nm : Nat → Str) (j : Nat) (m : Me) (o : X) (ap : Pos) (as : XS) (p : Pos) : swapOk nm j (.meth m o ap as p) = true := rfl
theorem na0 : Int.natAbs 0 = 0 := rfl
theorem na1 : Int.natAbs 1 = 1 := rfl
theorem na2 : Int.natAbs 2 = 2 := rfl
theorem na5 : Int.natAbs 5 = 5 := rfl
theorem na6 : Int.natAbs 6 = 6 := rfl
theorem na10 : Int.natAbs 10 = 10 := rfl
theorem na40 : Int.natAbs 40 = 40 := rfl
theorem put_get {S : Sta} {i : Nat} {sl : Slot} : S.put i sl i = some sl := if_pos rfl
theorem put_at (S : Sta) (i j : Nat) (sl : Slot) : S.put i sl j = if j = i then some sl else S j := rfl
theorem rho_nil (ps : List Nat) (i : Nat) : rhoOf (staOf ps []) i = none := by unfold rhoOf; cases ps <;> rfl
theorem rhoT_at (S : Sta) (i : Nat) : rhoT S i = (match S i with
  | some sl => some (itV sl.d true)
  | none => none) := rfl
theorem staOf_nil (i : Nat) : staOf [] [] i = none := rfl
theorem staOf_cons (p : Nat) (ps : List Nat) (d : D) (ds : List D) : staOf (p :: ps) (d :: ds) = (staOf ps ds).put p (.fr d) := rfl
theorem d_fr (d : D) : (Slot.fr d).d = d := rfl
theorem d_li (ds : List D) : (Slot.li ds).d = .lst ds := rfl
theorem d_di (ks : List Str) (ds : List D) : (Slot.di ks ds).d = .dct ks ds := rfl
theorem o_fr (d : D) : (Slot.fr d).own = false := rfl
theorem o_li (ds : List D) : (Slot.li ds).own = true := rfl
theorem o_di (ks : List Str) (ds : List D) : (Slot.di ks ds).own = true := rfl
theorem map_some {α β : Type} (f : α → β) (a : α) : Option.map f (some a) = some (f a) := rfl
theorem bind_some {α β : Type} (f : α → Option β) (a : α) : Option.bind (some a) f = f a := rfl
theorem b1 (i : Nat) (p : Pos) (v : V) (r : Rho) : bindTg (.one i p) v r = some fun k => if k = i then some v else r k := rfl
theorem bs1 (i : Nat) (p : Pos) (d : D) (S : Sta) : bindS (.one i p) d S = some (S.put i (.fr d)) := rfl
theorem tw1 (i : Nat) (p : Pos) : Tg.two? (.one i p) = false := rfl
theorem tw2 (i : Nat) (p : Pos) (j : Nat) (q : Pos) (k : Nat) (r : Pos) : Tg.two? (.two i p j q k r) = true := rfl
theorem tv1 (i : Nat) (p : Pos) : tgVars (.one i p) = [i] := rfl
theorem tv2 (i : Nat) (p : Pos) (j : Nat) (q : Pos) (k : Nat) (r : Pos) : tgVars (.two i p j q k r) = [i, j] := rfl
theorem lp_nil (f : Sta → Option (Fl × Sta)) (tg : Tg) (S : Sta) : loopF f tg [] S = some (.next, S) := rfl
theorem lp_cons (f : Sta → Option (Fl × Sta)) (tg : Tg) (d : D) (r : List D) (S : Sta) : loopF f tg (d :: r) S = (match bindS tg d S with
    | some S₁ => match f S₁ with
      | some (.next, S₂) => loopF f tg r S₂
      | some (.brk, S₂) => some (.next, S₂)
      | some (.ret v, S₂) => some (.ret v, S₂)
      | none => none
    | none => none) := rfl
theorem so_li (ds : List D) : slotOf (.lst ds) = if ds.all D.atom then some (.li ds) else none := rfl
theorem so_di (ks : List Str) (ds : List D) : slotOf (.dct ks ds) = if ds.all D.atom then some (.di ks ds) else none := rfl
theorem ss_li (ds : List D) (j : Int) (d : D) : setSlot (.li ds) (.int j) d = if 0 ≤ j ∧ j < ds.length ∧ ds.length ≤ listLine ∧ d.atom then some (.li (ds.set j.toNat d)) else none := rfl
theorem ss_di (ks : List Str) (ds : List D) (x : Str) (d : D) : setSlot (.di ks ds) (.str x) d = if ks.length ≤ listLine ∧ d.atom then some (.di (storeD ks ds x d).1 (storeD ks ds x d).2) else none := rfl
theorem at_i (i : Int) : D.atom (.int i) = true := rfl
theorem at_s (x : Str) : D.atom (.str x) = true := rfl
theorem pm_nil (S : Sta) : putMany S [] [] = some S := rfl
theorem pm_cons (S : Sta) (t : Nat × Pos) (ts : List (Nat × Pos)) (d : D) (ds : List D) : putMany S (t :: ts) (d :: ds) = putMany (S.put t.1 (.fr d)) ts ds := rfl
theorem mo_add : mutOp .add = true := rfl
theorem strsOf_map (xs : List Str) : strsOf (xs.map .str) = some xs := by
  induction xs with
  | nil => rfl
  | cons x r ih => show (strsOf (r.map D.str)).map (x :: ·) = _; rw [ih]; rfl
theorem idxN (k n : Nat) (h : k < n) : idxOf (k : Int) n = some k := by
  unfold idxOf
  rw [if_pos (Int.natCast_nonneg k), if_pos (by omega)]
  simp
theorem gOf_of {nm fn : Nat → Str} {FT : List FE} {sc : Scope} {exact : Bool} {b : Bl} {ps : List Nat} {pd : List D → Option (List D)} {ds ds' : List D} {d : D} {S' : Sta} (hp : pd ds = some ds') (hl : ds'.length = ps.length)
    (h : exB nm fn FT sc (!exact) 200 b (staOf ps ds') = some (.ret d, S')) : gOf nm fn FT sc exact b ps pd ds = some d := by
  unfold gOf
  rw [hp]
  dsimp only
  rw [if_pos hl, h]
theorem gOf_ex {nm fn : Nat → Str} {FT : List FE} {sc : Scope} {exact : Bool} {b : Bl} {ps : List Nat} {pd : List D → Option (List D)} {ds ds' : List D} {d : D} (hp : pd ds = some ds') (hl : ds'.length = ps.length)
    (h : ∃ S', exB nm fn FT sc (!exact) 200 b (staOf ps ds') = some (.ret d, S')) : gOf nm fn FT sc exact b ps pd ds = some d := let ⟨_, h⟩ := h; gOf_of hp hl h
theorem loop_inv {f : Sta → Option (Fl × Sta)} {tg : Tg} (I : Nat → Sta → Prop) : ∀ (items : List D) (k : Nat) (S : Sta), I k S →
    (∀ j d S, items[j]? = some d → I (k + j) S → ∃ S₁ S₂, bindS tg d S = some S₁ ∧ f S₁ = some (.next, S₂) ∧ I (k + j + 1) S₂) →
    ∃ S', loopF f tg items S = some (.next, S') ∧ I (k + items.length) S'
  | [], k, S, h, _ => ⟨S, rfl, h⟩
  | d :: r, k, S, h, st => by
    obtain ⟨S₁, S₂, e1, e2, e3⟩ := st 0 d S rfl h
    obtain ⟨S', e4, e5⟩ := loop_inv I r (k + 1) S₂ e3 fun j d' S hd hI => by
      have := st (j + 1) d' S (by simpa using hd) (by rw [show k + (j + 1) = k + 1 + j by omega]; exact hI)
      rw [show k + (j + 1) + 1 = k + 1 + j + 1 by omega] at this
      exact this
    refine ⟨S', ?_, by rw [List.length_cons, show k + (r.length + 1) = k + 1 + r.length by omega]; exact e5⟩
    rw [lp_cons, e1]
    dsimp only
    rw [e2]
    exact e4
theorem seqN {nm fn : Nat → Str} {FT : List FE} {sc : Scope} {tp : Bool} {n : Nat} {a : Sm} {b : Bl} {S : Sta} {P Q : Sta → Prop} (h1 : ∃ S1, exS nm fn FT sc tp n a S = some (.next, S1) ∧ P S1)
    (h2 : ∀ S1, P S1 → ∃ S', exB nm fn FT sc tp n b S1 = some (.next, S') ∧ Q S') : ∃ S', exB nm fn FT sc tp (n + 1) (.cons a b) S = some (.next, S') ∧ Q S' := by
  obtain ⟨S1, e, p⟩ := h1
  obtain ⟨S', e', q⟩ := h2 S1 p
  exact ⟨S', by rw [bcons, e]; exact e', q⟩
theorem out {x : Option (Fl × Sta)} {S2 : Sta} {P : Sta → Prop} (h : x = some (.next, S2)) (p : P S2) : ∃ S', x = some (.next, S') ∧ P S' := ⟨S2, h, p⟩
theorem enum_get : ∀ (ds : List D) (k j : Nat), (enumD k ds)[j]? = (ds[j]?).map fun d => .tup [.int ((k + j : Nat) : Int), d]
  | [], k, j => by simp [enumD]
  | d :: r, k, 0 => by simp [enumD]
  | d :: r, k, j + 1 => by
    show (enumD (k + 1) r)[j]? = _
    rw [enum_get r (k + 1) j, List.getElem?_cons_succ, show k + 1 + j = k + (j + 1) by omega]
theorem enum_len : ∀ (ds : List D) (k : Nat), (enumD k ds).length = ds.length
  | [], _ => rfl
  | _ :: r, k => congrArg (· + 1) (enum_len r (k + 1))
theorem range_get (a b : Int) (j : Nat) (h : (j : Int) < b - a) : (rangeD a b)[j]? = some (.int (a + j)) := by
  unfold rangeD
  rw [List.getElem?_map, List.getElem?_range (by omega)]; rfl
theorem range_len (a b : Int) : (rangeD a b).length = (b - a).toNat := by unfold rangeD; simp
noncomputable def Off (ks : List Nat) (S S' : Sta) : Prop := ∀ k, k ∉ ks → S' k = S k
theorem Off.refl {ks : List Nat} {S : Sta} : Off ks S S := fun _ _ => rfl
theorem Off.put {ks : List Nat} {S S' : Sta} {i : Nat} {sl : Slot} (h : Off ks S S') (hi : i ∈ ks) : Off ks S (S'.put i sl) := fun k hk => by
  rw [put_at, if_neg (by rintro rfl; exact hk hi)]; exact h k hk
theorem Off.trans {ks : List Nat} {S S' S'' : Sta} (a : Off ks S S') (b : Off ks S' S'') : Off ks S S'' := fun k hk => (b k hk).trans (a k hk)
theorem Off.mono {ks js : List Nat} {S S' : Sta} (a : Off ks S S') (h : ∀ k ∈ ks, k ∈ js) : Off js S S' := fun k hk => a k fun q => hk (h k q)
theorem idxNeg (n : Nat) : idxOf (-1) (n + 1) = some n := by
  unfold idxOf
  rw [if_neg (by omega), if_pos (by omega)]
  congr 1; omega
end Q
end Mine
end
section
set_option maxRecDepth 100000
open PySem PySem.W PyProof.Rows PySem.Calls
set_option autoImplicit false
namespace Mine
noncomputable def slash : Str := Str.ofString "/"
theorem slash_eq : slash = ⟨#[47]⟩ := by decide +kernel
structure Nm (x : Str) : Prop where
  ne : x.cps.toList ≠ []
  sl : 47 ∉ x.cps.toList
  le : x.length ≤ 20
noncomputable def pathL (ns : List Str) : List Nat := ns.flatMap fun x => 47 :: x.cps.toList
noncomputable def pathS (ns : List Str) : Str := ⟨(pathL ns).toArray⟩
theorem toList_pathS (ns : List Str) : (pathS ns).cps.toList = pathL ns := by unfold pathS; simp
theorem str_ext {a b : Str} (h : a.cps.toList = b.cps.toList) : a = b := by
  cases a; cases b; congr 1; exact Array.toList_inj.mp h
theorem pathL_append (a b : List Str) : pathL (a ++ b) = pathL a ++ pathL b := by unfold pathL; rw [List.flatMap_append]
theorem pathL_one (x : Str) : pathL [x] = 47 :: x.cps.toList := by unfold pathL; simp
theorem pathL_cons (x : Str) (r : List Str) : pathL (x :: r) = 47 :: (x.cps.toList ++ pathL r) := by unfold pathL; simp
theorem length_toList (x : Str) : x.length = x.cps.toList.length := by unfold Str.length; simp
theorem pathS_length {ns : List Str} (h : ∀ x ∈ ns, Nm x) : (pathS ns).length ≤ 21 * ns.length := by
  rw [length_toList, toList_pathS]
  induction ns with
  | nil => simp [pathL]
  | cons x r ih =>
    have := (h x List.mem_cons_self).le
    rw [length_toList] at this
    have ih := ih fun y hy => h y (List.mem_cons_of_mem _ hy)
    rw [pathL_cons, List.length_cons, List.length_append, List.length_cons]
    omega
theorem append_toList (a b : Str) : (a ++ b).cps.toList = a.cps.toList ++ b.cps.toList := by
  show (a.cps ++ b.cps).toList = _; rw [Array.toList_append]
theorem slash_toList : slash.cps.toList = [47] := by rw [slash_eq]
theorem pathS_snoc (ns : List Str) (x : Str) : pathS (ns ++ [x]) = pathS ns ++ (slash ++ x) := by
  apply str_ext
  rw [toList_pathS, append_toList, append_toList, toList_pathS, slash_toList, pathL_append, pathL_one]; rfl
theorem pathS_nil : pathS [] = Str.ofString "" := by decide +kernel
theorem pathS_ne {ns : List Str} (h : ns ≠ []) : (pathS ns).length ≠ 0 := by
  rw [length_toList, toList_pathS]
  cases ns with
  | nil => exact absurd rfl h
  | cons x r => rw [pathL_cons]; simp
theorem pathS_inj_nil {ns : List Str} : pathS ns = Str.ofString "" ↔ ns = [] := by
  constructor
  · intro h
    cases ns with
    | nil => rfl
    | cons x r =>
      have := congrArg (fun s : Str => s.cps.toList) h
      rw [toList_pathS, pathL_cons] at this
      cases this
  · rintro rfl; exact pathS_nil
theorem tw {x t : List Nat} (h : 47 ∉ x) : (x ++ 47 :: t).takeWhile (· != 47) = x := by
  induction x with
  | nil => simp
  | cons a r ih =>
    have ha : a ≠ 47 := fun e => h (by rw [e]; exact List.mem_cons_self)
    have hr : 47 ∉ r := fun e => h (List.mem_cons_of_mem _ e)
    rw [List.cons_append, List.takeWhile_cons_of_pos (by simpa using ha), ih hr]
theorem cat_inj {x y s t : List Nat} (hx : 47 ∉ x) (hy : 47 ∉ y) (h : x ++ 47 :: s = y ++ 47 :: t) : x = y ∧ s = t := by
  have e : x = y := by rw [← tw (t := s) hx, h, tw hy]
  subst e
  have := List.append_cancel_left h
  exact ⟨rfl, by injection this⟩
theorem join_toList (x : Str) (y : Str) (r : List Str) : (Str.join slash (x :: y :: r)).cps.toList = x.cps.toList ++ 47 :: (Str.join slash (y :: r)).cps.toList := by
  show ((x ++ slash ++ Str.join slash (y :: r)) : Str).cps.toList = _
  rw [append_toList, append_toList, slash_toList, List.append_assoc]; rfl
theorem join_inj : ∀ {a b : List Str}, a ≠ [] → b ≠ [] → (∀ x ∈ a, 47 ∉ x.cps.toList) → (∀ x ∈ b, 47 ∉ x.cps.toList) → Str.join slash a = Str.join slash b → a = b
  | [], _, h, _, _, _, _ => absurd rfl h
  | _, [], _, h, _, _, _ => absurd rfl h
  | [x], [y], _, _, _, _, h => by have : x = y := h; rw [this]
  | [x], y :: z :: r, _, _, hx, _, h => by
    have e := congrArg (fun s : Str => s.cps.toList) h
    rw [join_toList] at e
    have e : x.cps.toList = _ := e
    exact absurd (by rw [e]; simp) (hx x List.mem_cons_self)
  | x :: z :: r, [y], _, _, _, hy, h => by
    have e := congrArg (fun s : Str => s.cps.toList) h
    rw [join_toList] at e
    have e : _ = y.cps.toList := e
    exact absurd (by rw [← e]; simp) (hy y List.mem_cons_self)
  | x :: z :: r, y :: v :: q, _, _, hx, hy, h => by
    have e := congrArg (fun s : Str => s.cps.toList) h
    rw [join_toList, join_toList] at e
    obtain ⟨e1, e2⟩ := cat_inj (hx x List.mem_cons_self) (hy y List.mem_cons_self) e
    rw [str_ext e1, join_inj (by simp) (by simp) (fun a ha => hx a (List.mem_cons_of_mem _ ha)) (fun a ha => hy a (List.mem_cons_of_mem _ ha)) (str_ext e2)]
theorem join_pathS : ∀ (ns : List Str), ns ≠ [] → Str.join slash (Str.ofString "" :: ns) = pathS ns
  | [], h => absurd rfl h
  | [x], _ => by
    apply str_ext
    rw [join_toList, toList_pathS, pathL_one]; rfl
  | x :: y :: r, _ => by
    have ih := join_pathS (y :: r) (by simp)
    apply str_ext
    have ih' := congrArg (fun s : Str => s.cps.toList) ih
    rw [join_toList, toList_pathS] at ih'
    rw [join_toList, toList_pathS, join_toList, pathL_cons, ← ih']
    rfl
theorem empty_toList : (Str.ofString "").cps.toList = [] := by decide +kernel
theorem split_pathS {ns : List Str} (hn : ns ≠ []) (h : ∀ x ∈ ns, Nm x) : Txt.split (pathS ns) slash = Str.ofString "" :: ns := by
  have hj := StrLaws.join_split (pathS ns) slash
  have hf := StrLaws.split_free (pathS ns) 47
  rw [← slash_eq] at hf
  refine join_inj (fun e => ?_) (by simp) hf (fun x hx => ?_) (hj.trans (join_pathS ns hn).symm)
  · rw [e] at hj
    exact pathS_ne hn (by rw [← hj]; rfl)
  · rcases List.mem_cons.mp hx with rfl | hx
    · rw [empty_toList]; simp
    · exact (h x hx).sl
theorem rfind_last {x : Str} {l t : List Nat} (h : x.cps.toList = l ++ 47 :: t) (ht : 47 ∉ t) : Txt.rfind x slash = (l.length : Int) := by
  have h0 : x.cps.toList[l.length]? = some 47 := by rw [h]; simp
  have hA : StrLaws.At x slash x.length l.length := by rw [slash_eq]; exact (StrLaws.subAt_one x 47 l.length).mpr h0
  have hno : ∀ k, l.length < k → ¬ StrLaws.At x slash x.length k := fun k hk hk' => by
    rw [slash_eq] at hk'
    have := (StrLaws.subAt_one x 47 k).mp hk'
    rw [h, List.getElem?_append_right (by omega)] at this
    obtain ⟨m, hm⟩ : ∃ m, k - l.length = m + 1 := ⟨k - l.length - 1, by omega⟩
    rw [hm, List.getElem?_cons_succ] at this
    exact ht (List.mem_of_getElem? this)
  unfold Txt.rfind
  rcases StrLaws.last_spec x slash with ⟨_, q⟩ | ⟨i, e, q1, q2⟩
  · exact absurd hA (q _)
  · rw [e]
    have : i = l.length := by
      rcases Nat.lt_trichotomy i l.length with q | q | q
      · exact absurd hA (q2 _ q)
      · exact q
      · exact absurd q1 (hno _ q)
    rw [this]
theorem starts_no {x : Str} (hx : Nm x) : Txt.startswith x slash = false := by
  unfold Txt.startswith
  rw [StrLaws.subAt_eq, slash_toList, List.drop_zero]
  have : slash.length = 1 := rfl
  rw [this]
  cases h : x.cps.toList with
  | nil => exact absurd h hx.ne
  | cons a r =>
    have : a ≠ 47 := fun e => hx.sl (by rw [h, e]; exact List.mem_cons_self)
    simp [this]
theorem ends_no {x : Str} {l : List Nat} {a : Nat} (h : x.cps.toList = l ++ [a]) (ha : a ≠ 47) : Txt.endswith x slash = false := by
  unfold Txt.endswith
  rw [StrLaws.subAt_eq, slash_toList]
  have h1 : slash.length = 1 := rfl
  have h2 : x.length = l.length + 1 := by rw [length_toList, h]; simp
  rw [h1, h2, h]
  simp [ha]
theorem ends_slash : Txt.endswith slash slash = true := by decide +kernel
theorem slash_length : slash.length = 1 := rfl
theorem last_pathS {ns : List Str} {x : Str} (hx : Nm x) : ∃ l a, (pathS (ns ++ [x])).cps.toList = l ++ [a] ∧ a ≠ 47 := by
  obtain ⟨l, a, e⟩ : ∃ l a, x.cps.toList = l ++ [a] := ⟨_, _, (List.dropLast_concat_getLast hx.ne).symm⟩
  refine ⟨pathL ns ++ 47 :: l, a, ?_, fun q => hx.sl (by rw [e, q]; simp)⟩
  rw [toList_pathS, pathL_append, pathL_one, e]
  simp
end Mine
end
section
set_option maxRecDepth 100000
open PySem PySem.W PyProof.Rows PySem.Calls
set_option autoImplicit false
namespace Mine
noncomputable def joinS (a b : Str) : Str := if Txt.startswith b slash = true ∨ a.length = 0 then b else if Txt.endswith a slash = true then a ++ b else a ++ (slash ++ b)
noncomputable def baseS (p : Str) : Str := Txt.slice p (some (Txt.rfind p slash + 1)) none
noncomputable def headS (p : Str) : Str := Txt.slice p none (some (Txt.rfind p slash + 1))
noncomputable def dirS (p : Str) : Str := if (headS p).length = 0 ∨ headS p = Txt.mul slash ((headS p).length : Nat) then headS p else Txt.rstripChars (headS p) slash
theorem join_one {x : Str} (hx : Nm x) : joinS slash x = pathS [x] := by
  unfold joinS
  rw [if_neg (by rw [starts_no hx, slash_length]; simp), if_pos ends_slash]
  apply str_ext
  rw [append_toList, slash_toList, toList_pathS, pathL_one]; rfl
theorem snoc_last {ns : List Str} (hn : ns ≠ []) (h : ∀ x ∈ ns, Nm x) : ∃ l a, (pathS ns).cps.toList = l ++ [a] ∧ a ≠ 47 := by
  obtain ⟨r, x, e⟩ : ∃ r x, ns = r ++ [x] := ⟨_, _, (List.dropLast_concat_getLast hn).symm⟩
  subst e
  exact last_pathS (h x (by simp))
theorem join_snoc {ns : List Str} {x : Str} (hn : ns ≠ []) (h : ∀ x ∈ ns, Nm x) (hx : Nm x) : joinS (pathS ns) x = pathS (ns ++ [x]) := by
  obtain ⟨l, a, e, ha⟩ := snoc_last hn h
  unfold joinS
  rw [if_neg (by rw [starts_no hx]; have := pathS_ne hn; simp [this]), if_neg (by rw [ends_no e ha]; simp), pathS_snoc]
theorem rfind_snoc {ns : List Str} {x : Str} (hx : Nm x) : Txt.rfind (pathS (ns ++ [x])) slash = ((pathL ns).length : Int) :=
  rfind_last (l := pathL ns) (t := x.cps.toList) (by rw [toList_pathS, pathL_append, pathL_one]) hx.sl
theorem slice_eq (x : Str) (l u : Option Int) : Txt.slice x l u = StrLaws.sliceText x l u := rfl
theorem base_snoc {ns : List Str} {x : Str} (hx : Nm x) : baseS (pathS (ns ++ [x])) = x := by
  unfold baseS
  have hl : (pathS (ns ++ [x])).cps.toList.length = (pathL ns).length + (1 + x.cps.toList.length) := by
    rw [toList_pathS, pathL_append, pathL_one, List.length_append, List.length_cons]; omega
  rw [rfind_snoc hx, slice_eq, StrLaws.sliceText_from ⟨by omega, by rw [hl]; omega⟩]
  apply str_ext
  rw [hl, toList_pathS, pathL_append, pathL_one]
  have e1 : ((pathL ns).length + 1 : Int).toNat = (pathL ns).length + 1 := by omega
  have e2 : (((pathL ns).length + (1 + x.cps.toList.length) : Nat) - ((pathL ns).length + 1 : Int) : Int).toNat = x.cps.toList.length := by omega
  rw [e1, e2]
  show List.take _ (List.drop _ (pathL ns ++ 47 :: x.cps.toList)) = _
  rw [show pathL ns ++ 47 :: x.cps.toList = (pathL ns ++ [47]) ++ x.cps.toList by simp, List.drop_left' (by simp), List.take_length]
theorem head_snoc {ns : List Str} {x : Str} (hx : Nm x) : headS (pathS (ns ++ [x])) = pathS ns ++ slash := by
  unfold headS
  have hl : (pathS (ns ++ [x])).cps.toList.length = (pathL ns).length + (1 + x.cps.toList.length) := by
    rw [toList_pathS, pathL_append, pathL_one, List.length_append, List.length_cons]; omega
  rw [rfind_snoc hx, slice_eq, StrLaws.sliceText_to ⟨by omega, by rw [hl]; omega⟩]
  apply str_ext
  rw [toList_pathS, pathL_append, pathL_one, append_toList, toList_pathS, slash_toList]
  have e1 : (((pathL ns).length : Int) + 1 - 0).toNat = (pathL ns).length + 1 := by omega
  rw [e1, List.drop_zero]
  show List.take _ (pathL ns ++ 47 :: x.cps.toList) = _
  rw [show pathL ns ++ 47 :: x.cps.toList = (pathL ns ++ [47]) ++ x.cps.toList by simp, List.take_left' (by simp)]
theorem foldl_47 : ∀ (n : Nat) (a : Array Nat), (∀ c ∈ a.toList, c = 47) → ∀ c ∈ ((List.replicate n slash.cps).foldl (· ++ ·) a).toList, c = 47
  | 0, a, h => h
  | n + 1, a, h => by
    rw [List.replicate_succ, List.foldl_cons]
    refine foldl_47 n _ fun c hc => ?_
    rw [Array.toList_append, List.mem_append] at hc
    rcases hc with hc | hc
    · exact h c hc
    · rw [slash_toList] at hc; simpa using hc
theorem mul_47 (n : Int) : ∀ c ∈ (Txt.mul slash n).cps.toList, c = 47 := by
  unfold Txt.mul
  split
  · intro c hc; simp [Str.empty] at hc
  · split
    · intro c hc; rw [slash_toList] at hc; simpa using hc
    · exact foldl_47 _ _ (fun c hc => by simp at hc)
theorem rstrip_slash {x : Str} {l : List Nat} {a : Nat} (h : x.cps.toList = l ++ [a]) (ha : a ≠ 47) : Txt.rstripChars (x ++ slash) slash = x := by
  have hx : (x ++ slash).cps.toList = l ++ [a] ++ [47] := by rw [append_toList, h, slash_toList]
  have hln : (x ++ slash).length = l.length + 2 := by rw [length_toList, hx]; simp
  have hcp : slash.cps = #[47] := by rw [slash_eq]
  have goes : ∀ c, slash.cps.contains c = (c == 47) := fun c => by
    rw [hcp]
    by_cases h : c = 47
    · subst h; simp
    · rw [beq_false_of_ne h]; simp [h]
  have hhi : stripHi slash.cps.contains true (x ++ slash) 0 = l.length + 1 := by
    unfold stripHi
    rw [if_pos rfl, hx, hln]
    have g1 : slash.cps.contains 47 = true := by rw [goes]; rfl
    have g2 : slash.cps.contains a = false := by rw [goes]; exact beq_false_of_ne ha
    rw [List.drop_zero, List.reverse_append, List.reverse_append]
    show _ - (List.takeWhile _ (47 :: a :: l.reverse)).length = _
    rw [List.takeWhile_cons_of_pos g1, List.takeWhile_cons_of_neg (by rw [g2]; simp)]
    rfl
  have hlo : stripLo slash.cps.contains false (x ++ slash) = 0 := rfl
  unfold Txt.rstripChars Txt.stripBy stripSame PySem.stripped
  rw [hlo, hhi, hln, if_neg (by simp)]
  apply str_ext
  rw [StrLaws.strSub_toList, hx, h, List.drop_zero, Nat.sub_zero]
  exact List.take_left' (by simp)
theorem dir_snoc {ns : List Str} {x : Str} (hn : ns ≠ []) (h : ∀ x ∈ ns, Nm x) (hx : Nm x) : dirS (pathS (ns ++ [x])) = pathS ns := by
  obtain ⟨l, a, e, ha⟩ := snoc_last hn h
  unfold dirS
  rw [head_snoc hx]
  have hs : (pathS ns ++ slash).cps.toList = l ++ [a] ++ [47] := by rw [append_toList, e, slash_toList]
  rw [if_neg, rstrip_slash e ha]
  rintro (q | q)
  · rw [length_toList, hs] at q; simp at q
  · exact ha (mul_47 _ a (by rw [← q, hs]; simp))
end Mine
end
section
set_option autoImplicit false
namespace Mine.Ri
noncomputable def it (f : Nat → Nat) : Nat → Nat → Nat
  | 0, x => x
  | n + 1, x => it f n (f x)
theorem it_add (f : Nat → Nat) : ∀ (m n x : Nat), it f (m + n) x = it f n (it f m x)
  | 0, n, x => by rw [Nat.zero_add]; rfl
  | m + 1, n, x => by rw [show m + 1 + n = (m + n) + 1 by omega]; exact it_add f m n (f x)
theorem it_succ (f : Nat → Nat) (n x : Nat) : it f (n + 1) x = f (it f n x) := it_add f n 1 x
theorem it_mul {f : Nat → Nat} {d x : Nat} (h : it f d x = x) : ∀ m, it f (d * m) x = x
  | 0 => rfl
  | m + 1 => by rw [Nat.mul_succ, it_add, it_mul h m, h]
theorem it_zero {f : Nat → Nat} (h : f 0 = 0) : ∀ n, it f n 0 = 0
  | 0 => rfl
  | n + 1 => by show it f n (f 0) = 0; rw [h]; exact it_zero h n
theorem it_congr {f g : Nat → Nat} {x : Nat} (h : ∀ i, g (it f i x) = f (it f i x)) : ∀ n, it g n x = it f n x
  | 0 => rfl
  | n + 1 => by rw [it_succ, it_succ, it_congr h n, h n]
noncomputable def Ring (f : Nat → Nat) (x : Nat) : Prop := x ≠ 0 ∧ ∃ d, 0 < d ∧ it f d x = x
noncomputable def On (f : Nat → Nat) (x k : Nat) : Prop := ∃ i, it f i x = k
theorem On.back {f : Nat → Nat} {x k : Nat} (h : Ring f x) (o : On f x k) : On f k x := by
  obtain ⟨_, d, hd, e⟩ := h
  obtain ⟨i, rfl⟩ := o
  refine ⟨d * (i + 1) - i, ?_⟩
  rw [← it_add]
  have : i ≤ d * (i + 1) := Nat.le_trans (Nat.le_succ i) (Nat.le_mul_of_pos_left _ hd)
  rw [show i + (d * (i + 1) - i) = d * (i + 1) by omega]
  exact it_mul e _
theorem On.trans {f : Nat → Nat} {x y z : Nat} (a : On f x y) (b : On f y z) : On f x z := by
  obtain ⟨i, rfl⟩ := a
  obtain ⟨j, rfl⟩ := b
  exact ⟨i + j, it_add f i j x⟩
theorem Ring.on {f : Nat → Nat} {x k : Nat} (h0 : f 0 = 0) (h : Ring f x) (o : On f x k) : Ring f k := by
  have b := o.back h
  obtain ⟨h1, d, hd, e⟩ := h
  obtain ⟨i, rfl⟩ := o
  refine ⟨fun q => ?_, d, hd, ?_⟩
  · obtain ⟨j, hj⟩ := b
    rw [q, it_zero h0] at hj
    exact h1 hj.symm
  · rw [← it_add, Nat.add_comm, it_add, e]
section
variable (ar : Nat → Nat → Nat)
noncomputable def top (l : Nat → Nat) (k : Nat) : Nat := if k = 0 then 0 else ar k (l k)
theorem top0 (l : Nat → Nat) : top ar l 0 = 0 := rfl
noncomputable def Pop (l l' : Nat → Nat) : Prop := ∃ x, Ring (top ar l) x ∧ (∀ k, On (top ar l) x k → l' k = l k + 1) ∧ ∀ k, ¬ On (top ar l) x k → l' k = l k
inductive Pops : (Nat → Nat) → (Nat → Nat) → Prop
  | refl (l : Nat → Nat) : Pops l l
  | step {l m n : Nat → Nat} : Pop ar l m → Pops m n → Pops l n
noncomputable def Still (l : Nat → Nat) : Prop := ∀ x, ¬ Ring (top ar l) x
variable {ar}
theorem Pops.snoc {l m n : Nat → Nat} (h : Pops ar l m) (p : Pop ar m n) : Pops ar l n := by
  induction h with
  | refl l => exact .step p (.refl _)
  | step a _ ih => exact .step a (ih p)
theorem diamond {l a b : Nat → Nat} (ha : Pop ar l a) (hb : Pop ar l b) : a = b ∨ ∃ c, Pop ar a c ∧ Pop ar b c := by
  obtain ⟨x, rx, ax, ax'⟩ := ha
  obtain ⟨y, ry, by1, by2⟩ := hb
  by_cases h : On (top ar l) x y
  · left
    have same : ∀ k, On (top ar l) x k ↔ On (top ar l) y k := fun k => ⟨fun q => (h.back rx).trans q, fun q => h.trans q⟩
    funext k
    by_cases q : On (top ar l) x k
    · rw [ax k q, by1 k ((same k).mp q)]
    · rw [ax' k q, by2 k fun z => q ((same k).mpr z)]
  · right
    have dis : ∀ k, On (top ar l) x k → ¬ On (top ar l) y k := fun k q z => h (q.trans (z.back ry))
    have keep : ∀ (u v : Nat) (c : Nat → Nat), (∀ k, On (top ar l) v k → ¬ On (top ar l) u k) → (∀ k, ¬ On (top ar l) u k → c k = l k) → ∀ n, it (top ar c) n v = it (top ar l) n v := fun u v c hd hc =>
      it_congr fun i => by
        have := hc (it (top ar l) i v) (hd _ ⟨i, rfl⟩)
        show (if it (top ar l) i v = 0 then 0 else ar (it (top ar l) i v) (c (it (top ar l) i v))) = (if it (top ar l) i v = 0 then 0 else ar (it (top ar l) i v) (l (it (top ar l) i v)))
        rw [this]
    have ky := keep x y a (fun k q z => dis k z q) ax'
    have kx := keep y x b (fun k q z => dis k q z) by2
    have ony : ∀ k, On (top ar a) y k ↔ On (top ar l) y k := fun k => ⟨fun ⟨i, e⟩ => ⟨i, by rw [← ky i]; exact e⟩, fun ⟨i, e⟩ => ⟨i, by rw [ky i]; exact e⟩⟩
    have onx : ∀ k, On (top ar b) x k ↔ On (top ar l) x k := fun k => ⟨fun ⟨i, e⟩ => ⟨i, by rw [← kx i]; exact e⟩, fun ⟨i, e⟩ => ⟨i, by rw [kx i]; exact e⟩⟩
    obtain ⟨y0, d, hd, ed⟩ := ry
    obtain ⟨x0, d', hd', ed'⟩ := rx
    have := Classical.propDecidable
    refine ⟨fun k => if On (top ar l) y k then a k + 1 else a k, ⟨y, ⟨y0, d, hd, by rw [ky]; exact ed⟩, fun k q => if_pos ((ony k).mp q), fun k q => if_neg fun z => q ((ony k).mpr z)⟩,
      ⟨x, ⟨x0, d', hd', by rw [kx]; exact ed'⟩, fun k q => ?_, fun k q => ?_⟩⟩
    · have q := (onx k).mp q
      dsimp only
      rw [if_neg (dis k q), ax k q, by2 k (dis k q)]
    · have q : ¬ On (top ar l) x k := fun z => q ((onx k).mpr z)
      dsimp only
      by_cases z : On (top ar l) y k
      · rw [if_pos z, ax' k q, by1 k z]
      · rw [if_neg z, ax' k q, by2 k z]
theorem Still.no {l a : Nat → Nat} (h : Still ar l) : ¬ Pop ar l a := fun ⟨x, r, _⟩ => h x r
theorem strip {l b : Nat → Nat} (hb : Pops ar l b) (sb : Still ar b) : ∀ {a : Nat → Nat}, Pop ar l a → Pops ar a b := by
  induction hb with
  | refl l => intro a ha; exact absurd ha sb.no
  | step p q ih =>
    intro a ha
    rcases diamond ha p with rfl | ⟨c, h1, h2⟩
    · exact q
    · exact .step h1 (ih sb h2)
theorem uniq {l a b : Nat → Nat} (ha : Pops ar l a) (hb : Pops ar l b) (sa : Still ar a) (sb : Still ar b) : a = b := by
  induction ha with
  | refl l =>
    cases hb with
    | refl => rfl
    | step p _ => exact absurd p sa.no
  | step p _ ih => exact ih (strip hb sb p) sa
theorem php : ∀ (n : Nat) (g : Nat → Nat), (∀ i, i ≤ n → g i < n) → ∃ i j, i < j ∧ j ≤ n ∧ g i = g j
  | 0, g, h => absurd (h 0 (Nat.le_refl 0)) (Nat.not_lt_zero _)
  | n + 1, g, h => by
    by_cases hv : ∃ i, i ≤ n ∧ g i = g (n + 1)
    · obtain ⟨i, hi, e⟩ := hv
      exact ⟨i, n + 1, by omega, Nat.le_refl _, e⟩
    · have hv : ∀ i, i ≤ n → g i ≠ g (n + 1) := fun i hi e => hv ⟨i, hi, e⟩
      obtain ⟨i, j, hij, hj, e⟩ := php n (fun i => if g i = n then g (n + 1) else g i) fun i hi => by
        have h1 := h i (by omega)
        have h2 := h (n + 1) (Nat.le_refl _)
        have h3 := hv i hi
        split <;> omega
      have a1 := hv i (by omega)
      have a2 := hv j hj
      refine ⟨i, j, hij, by omega, ?_⟩
      split at e <;> split at e <;> omega
theorem ring_of {f : Nat → Nat} (h0 : f 0 = 0) (h5 : ∀ k, f k ≤ 5) {k : Nat} (hk : k ≤ 5) (h : it f 5 k ≠ 0) : ∃ d, 0 < d ∧ d ≤ 5 ∧ it f d (it f 5 k) = it f 5 k := by
  have nz : ∀ i, i ≤ 5 → it f i k ≠ 0 := fun i hi e => h (by
    rw [show 5 = i + (5 - i) by omega, it_add, e, it_zero h0])
  have le : ∀ i, it f i k ≤ 5 := fun i => by
    cases i with
    | zero => exact hk
    | succ i => rw [it_succ]; exact h5 _
  obtain ⟨i, j, hij, hj, e⟩ := php 5 (fun i => it f i k - 1) fun i hi => by
    have := nz i hi; have := le i
    omega
  have e : it f i k = it f j k := by
    have := nz i (by omega); have := nz j hj
    omega
  refine ⟨j - i, by omega, by omega, ?_⟩
  rw [← it_add, show 5 + (j - i) = j + (5 - i) by omega, it_add, ← e, ← it_add]
  congr 1; omega
theorem Ring.le {f : Nat → Nat} (h5 : ∀ k, f k ≤ 5) {x : Nat} (r : Ring f x) : x ≤ 5 := by
  obtain ⟨_, d, hd, e⟩ := r
  obtain ⟨d, rfl⟩ : ∃ m, d = m + 1 := ⟨d - 1, by omega⟩
  rw [← e, it_succ]; exact h5 _
theorem still_of {l : Nat → Nat} (h5 : ∀ k, top ar l k ≤ 5) (h : ∀ k, 1 ≤ k → k ≤ 5 → it (top ar l) 5 k = 0) : Still ar l := fun x r => by
  have hx := r.le h5
  have h1 : 1 ≤ x := Nat.pos_of_ne_zero r.1
  have : Ring (top ar l) (it (top ar l) 5 x) := r.on (top0 ar l) ⟨5, rfl⟩
  exact this.1 (h x h1 hx)
end
end Mine.Ri
end
section
set_option maxRecDepth 100000
open PySem PySem.W PyProof.Rows PySem.Calls
set_option autoImplicit false
namespace Mine.L2
theorem g_fspath (x : Str) : E0.g [.str x] = some (.str x) := by
  rw [e0_g]
  refine Q.gOf_ex (ds' := [.str x]) rfl rfl ?_
  unfold bFfspath pFfspath
  simp only [Q.var, Q.bi, Q.isSB, Q.nil, Q.cons, Q.tisSB, Q.asg, Q.sif, Q.sret, Q.bcons, Q.tB, Q.tyS, Q.rho_put, Q.rho_nil, Q.staOf_cons, Q.d_fr, Q.o_fr, Q.map_some, List.map_cons, List.map_nil, List.length_cons, List.length_nil, Bool.and_self, decide_true, if_true, if_false, Q.sw_bi, Nat.reduceLT, Nat.succ_ne_self, and_self, reduceCtorEq, Nat.lt_add_one, Nat.zero_add, kfspath]
  exact ⟨_, rfl⟩
theorem g_sep (x : Str) : E1.g [.str x] = some (.str slash) := by
  rw [e1_g]
  refine Q.gOf_ex (ds' := [.str x]) rfl rfl ?_
  unfold bF_get_sep pF_get_sep
  simp only [Q.var, Q.str, Q.isB, Q.tisB, Q.sif, Q.sret, Q.bcons, Q.tB, Q.rho_put, Q.rho_nil, Q.staOf_cons, Q.d_fr, Q.o_fr, Bool.and_self, if_true, k_get_sep]
  exact ⟨_, rfl⟩
theorem g_join (a b : Str) (ha : a.length ≤ 2000) (hb : b.length ≤ 2000) : E2.g [.str a, .str b] = some (.str (joinS a b)) := by
  rw [e2_g]
  refine Q.gOf_ex (ds' := [.str a, .tup [.str b]]) rfl rfl ?_
  have h1 : a.length ≤ 100000 := by omega
  have h2 : a.length + b.length ≤ 100000 := by omega
  have h3 : slash.length + b.length ≤ 100000 := by show 1 + b.length ≤ 100000; omega
  have h4 : a.length + (slash ++ b).length ≤ 100000 := by rw [Str.length_append]; show a.length + (1 + b.length) ≤ 100000; omega
  unfold bFjoin pFjoin joinS
  have e : Str.ofString "/" = slash := rfl
  simp only [Q.var, Q.bin, Q.call, Q.meth, Q.nil, Q.cons, Q.tnot, Q.tor, Q.tvar, Q.tmeth, Q.sr_t, Q.svar, Q.asg, Q.aug, Q.sif, Q.sfor, Q.sret, Q.stri, Q.bnil, Q.bcons, Q.addS, Q.tB, Q.tS, Q.msw, Q.mew, Q.itV_ff, Q.unt_nil, Q.unt_cons, Q.rho_put, Q.rho_nil, Q.put_at, Q.staOf_nil, Q.staOf_cons, Q.d_fr, Q.o_fr, Q.map_some, Q.bs1, Q.tw1, Q.tv1, Q.at_s, Q.mo_add, strLine, listLine, Bool.or_true, List.map_cons, List.map_nil, List.length_cons, List.length_nil, List.all_cons, List.all_nil, Bool.not_true, Bool.not_false, Bool.or_false, Bool.and_self, decide_true, if_true, if_false, beq_self_eq_true, Q.sw_var, Q.sw_call, Q.ba_var, Nat.reduceEqDiff, Nat.reduceLT, Nat.reduceLeDiff, Nat.succ_ne_self, and_self, reduceCtorEq, Nat.lt_add_one, Nat.zero_add, Q.lp_cons, Q.lp_nil, kjoin, ft2, e0_x, e1_x, dFfspath, dF_get_sep, g_fspath, g_sep, h1, h2, h3, h4]
  cases hs : Txt.startswith b slash <;> cases he : Txt.endswith a slash <;> by_cases h0 : a.length = 0 <;> (simp only [Q.rho_put, Q.rho_nil, Q.d_fr, Q.o_fr, or_false, or_self, Bool.not_true, Bool.not_false, decide_true, decide_false, if_true, if_false, Bool.false_eq_true, reduceCtorEq, h0, or_true, or_false]; exact ⟨_, rfl⟩)
theorem g_basename (a : Str) (ha : a.length ≤ 2000) : E3.g [.str a] = some (.str (baseS a)) := by
  rw [e3_g]
  refine Q.gOf_ex (ds' := [.str a]) rfl rfl ?_
  have h1 : a.length ≤ 100000 := by omega
  unfold bFbasename pFbasename baseS
  simp only [Q.var, Q.int, Q.bin, Q.slice, Q.call, Q.meth, Q.nil, Q.cons, Q.onone, Q.osome, Q.asg, Q.sret, Q.bcons, Q.addI, Q.slS, Q.poN, Q.poI, Q.mrf, Q.itV_ff, Q.unt_nil, Q.unt_cons, Q.rho_put, Q.rho_nil, Q.staOf_cons, Q.d_fr, Q.o_fr, Q.map_some, strLine, Bool.or_true, List.map_cons, List.map_nil, List.length_cons, List.length_nil, Bool.not_true, Bool.not_false, Bool.or_false, Bool.and_self, decide_true, if_true, if_false, beq_self_eq_true, Q.sw_bin, Q.sw_call, Q.ba_var, Nat.reduceEqDiff, Nat.reduceLT, Nat.succ_ne_self, and_self, Nat.lt_add_one, Nat.zero_add, kbasename, ft3, e0_x, e1_x, dFfspath, dF_get_sep, g_fspath, g_sep, h1]
  exact ⟨_, rfl⟩
theorem g_dirname (a : Str) (ha : a.length ≤ 2000) : E4.g [.str a] = some (.str (dirS a)) := by
  rw [e4_g]
  refine Q.gOf_ex (ds' := [.str a]) rfl rfl ?_
  have h1 : a.length ≤ 100000 := by omega
  have h2 : (headS a).length ≤ 100000 := Nat.le_trans (Txt.slice_le _ _ _) h1
  have h3 : slash.length ≤ 16 ∧ (0 : Int) ≤ ((headS a).length : Nat) ∧ (((headS a).length : Nat) : Int) ≤ 100000 := ⟨by show 1 ≤ 16; omega, by omega, by omega⟩
  unfold bFdirname pFdirname dirS
  have e : Txt.slice a none (some (Txt.rfind a slash + 1)) = headS a := rfl
  simp only [Q.var, Q.int, Q.bin, Q.slice, Q.call, Q.bi, Q.meth, Q.nil, Q.cons, Q.onone, Q.osome, Q.tand, Q.tcmp, Q.tvar, Q.asg, Q.sif, Q.sret, Q.bnil, Q.bcons, Q.addI, Q.mulS, Q.neS, Q.tS, Q.slS, Q.poN, Q.poI, Q.lenS, Q.mrf, Q.mrs, Q.itV_ff, Q.unt_nil, Q.unt_cons, Q.rho_put, Q.rho_nil, Q.staOf_cons, Q.d_fr, Q.o_fr, Q.map_some, strLine, Bool.or_true, List.map_cons, List.map_nil, List.length_cons, List.length_nil, Bool.not_true, Bool.not_false, Bool.or_false, Bool.and_self, decide_true, if_true, if_false, beq_self_eq_true, Q.sw_bin, Q.sw_slice, Q.sw_call, Q.sw_meth, Q.ba_var, Nat.reduceEqDiff, Nat.reduceLT, Nat.succ_ne_self, and_self, Nat.lt_add_one, Nat.zero_add, kdirname, ft4, e0_x, e1_x, dFfspath, dF_get_sep, g_fspath, g_sep, h1, e, h2, h3]
  cases hb : (headS a != Txt.mul slash ((headS a).length : Nat)) with
  | false =>
    have h5 : headS a = Txt.mul slash ((headS a).length : Nat) := by simpa using hb
    rw [if_pos (Or.inr h5)]
    by_cases h4 : (headS a).length = 0 <;> (simp only [Q.rho_put, Q.rho_nil, Q.d_fr, Q.o_fr, Bool.not_true, Bool.not_false, decide_true, decide_false, if_true, if_false, Nat.reduceEqDiff, Nat.succ_ne_self, h4]; exact ⟨_, rfl⟩)
  | true =>
    have h5 : ¬ headS a = Txt.mul slash ((headS a).length : Nat) := by simpa using hb
    by_cases h4 : (headS a).length = 0
    · rw [if_pos (Or.inl h4)]; simp only [Q.rho_put, Q.rho_nil, Q.d_fr, Q.o_fr, Bool.not_true, decide_true, if_true, if_false, Nat.reduceEqDiff, Nat.succ_ne_self, h4]; exact ⟨_, rfl⟩
    · rw [if_neg (fun q => q.elim h4 h5)]; simp only [Q.rho_put, Q.rho_nil, Q.d_fr, Q.o_fr, Bool.not_false, decide_false, if_true, if_false, Nat.reduceEqDiff, Nat.succ_ne_self, h4]; exact ⟨_, rfl⟩
end Mine.L2
end
section
set_option maxRecDepth 100000
open PySem PySem.W PyProof.Rows PySem.Calls
set_option autoImplicit false
namespace Mine.L2
noncomputable def pool : List Str := ["\t", "\n", "\r", "\"", "&", "&lt;", "#", "'", "<", "=", ">", "a"]
noncomputable def poolAt (j : Nat) : Str := pool.getD j ""
noncomputable def nameT : List (List Str) := [["\t", "\n", "\r", "\"", "&amp;", "&amp;lt;", "#", "'", "&lt;", "=", "&gt;", "a"],
  ["\t", "\n", "&#xD;", "\"", "&amp;", "&amp;lt;", "#", "'", "&lt;", "=", "&gt;", "a"],
  ["&#09;", "&#10;", "&#13;", "&quot;", "&amp;", "&amp;lt;", "#", "'", "&lt;", "=", "&gt;", "a"],
  ["&#x9;", "&#xA;", "&#xD;", "&quot;", "&amp;", "&amp;lt;", "#", "'", "&lt;", "=", ">", "a"],
  ["\t", "\n", "\r", "&quot;", "&amp;", "&amp;lt;", "#", "'", "<", "=", "&gt;", "a"]]
noncomputable def nameAt (k j : Nat) : Str := (nameT.getD k []).getD j ""
theorem written_all : (List.range 5).map (fun (k : Nat) => (List.range 12).map fun j => E13.g [.str (poolAt j), .int k]) = (List.range 5).map (fun k => (List.range 12).map fun j => some (.str (nameAt k j))) := by kernel_rfl
theorem told_all : (List.range 5).map (fun (k : Nat) => (List.range 12).map fun j => E12.g [.str (poolAt j), .int k]) = (List.range 5).map (fun k => (List.range 12).map fun j => some (.str (nameAt k j))) := by kernel_rfl
theorem map2_at {α : Type} {f g : Nat → Nat → α} {a b : Nat} (h : (List.range a).map (fun k => (List.range b).map (f k)) = (List.range a).map (fun k => (List.range b).map (g k))) {k j : Nat} (hk : k < a) (hj : j < b) : f k j = g k j := by
  have h1 := congrArg (fun l => l[k]?) h
  simp only [List.getElem?_map, List.getElem?_range hk, Option.map_some] at h1
  have h2 := congrArg (fun l => l[j]?) (Option.some.inj h1)
  simp only [List.getElem?_map, List.getElem?_range hj, Option.map_some] at h2
  exact Option.some.inj h2
theorem g_written {k j : Nat} (hk : k < 5) (hj : j < 12) : E13.g [.str (poolAt j), .int k] = some (.str (nameAt k j)) := map2_at written_all hk hj
theorem g_told {k j : Nat} (hk : k < 5) (hj : j < 12) : E12.g [.str (poolAt j), .int k] = some (.str (nameAt k j)) := map2_at told_all hk hj
noncomputable def namesOf (k j : Nat) : List Str := (List.range 5).map fun i => nameAt k ((j + i) % 12)
noncomputable def nmB (x : Str) : Bool := !x.cps.toList.isEmpty && !x.cps.toList.contains 47 && decide (x.length ≤ 20)
theorem nmB_Nm {x : Str} (h : nmB x = true) : Nm x := by
  unfold nmB at h
  rw [Bool.and_eq_true, Bool.and_eq_true, decide_eq_true_eq] at h
  refine ⟨fun e => ?_, fun e => ?_, h.2⟩
  · rw [e] at h; simp at h
  · have := h.1.2; simp at this; exact this (by simpa using e)
theorem names_all : ((List.range 5).all fun k => (List.range 12).all fun j => (namesOf k j).all nmB && decide (namesOf k j).Nodup) = true := by decide +kernel
theorem names_ok {k j : Nat} (hk : k < 5) (hj : j < 12) : (∀ x ∈ namesOf k j, Nm x) ∧ (namesOf k j).Nodup := by
  have := List.all_eq_true.mp (List.all_eq_true.mp names_all k (List.mem_range.mpr hk)) j (List.mem_range.mpr hj)
  rw [Bool.and_eq_true, decide_eq_true_eq] at this
  exact ⟨fun x hx => nmB_Nm (List.all_eq_true.mp this.1 x hx), this.2⟩
theorem names_length (k j : Nat) : (namesOf k j).length = 5 := by unfold namesOf; simp
end Mine.L2
end
section
set_option maxRecDepth 100000
open PySem PySem.W PyProof.Rows PySem.Calls
set_option autoImplicit false
namespace Mine.L2
noncomputable def CellsAt (m : Nat) (S : Sta) : Prop := ∃ a b c d : Int, S 10 = some (.li [.int a, .int b, .int c, .int d]) ∧ (0 ≤ a ∧ a ≤ 20000000 + 10000000 * m) ∧ (0 ≤ b ∧ b ≤ 20000000 + 10000000 * m) ∧ (0 ≤ c ∧ c ≤ 20000000 + 10000000 * m) ∧ (0 ≤ d ∧ d ≤ 20000000 + 10000000 * m)
theorem drawn_turn (n : Nat) (tp : Bool) (S : Sta) (j : Nat) (z : Int) (m : Nat) (h : CellsAt m S) : ∃ S2, exB nm fn FT11 sF_law_drawn tp (n + 12) (.cons (.augI 10 ⟨210,8,210,13⟩ (.bin .mod (.var 11 ⟨210,14,210,15⟩) (.int (4) 0 ⟨210,18,210,19⟩) ⟨210,14,210,19⟩) ⟨210,8,210,20⟩ .add (.bin .mod (.var 12 ⟨210,24,210,25⟩) (.int (10000000) 0 ⟨210,28,210,36⟩) ⟨210,24,210,36⟩) ⟨210,8,210,36⟩) .nil) ((S.put 11 (.fr (.int j))).put 12 (.fr (.int z))) = some (.next, S2) ∧ CellsAt (m + 1) S2 := by
  obtain ⟨a, b, c, d, h10, ha, hb, hc, hd⟩ := h
  have z1 : 0 ≤ z.fmod 10000000 := Int.fmod_nonneg_of_pos z (by decide)
  have z2 : z.fmod 10000000 < 10000000 := Int.fmod_lt_of_pos z (by decide)
  have e4 : (j : Int).fmod 4 = ((j % 4 : Nat) : Int) := by rw [Int.fmod_eq_emod_of_nonneg _ (by decide)]; omega
  have h4 : j % 4 < 4 := Nat.mod_lt _ (by decide)
  have key : j % 4 = 0 ∨ j % 4 = 1 ∨ j % 4 = 2 ∨ j % 4 = 3 := by omega
  rcases key with q | q | q | q <;> rw [q] at e4 <;> (
    apply Q.out
    · simp only [Q.var, Q.int, Q.bin, Q.augI, Q.bnil, Q.bcons, Q.addI, Q.modI, Q.itL, Q.itV_ff, Q.rho_put, Q.put_at, Q.d_fr, Q.d_li, Q.o_fr, Q.o_li, Q.map_some, Q.bind_some, Q.ss_li, Q.at_i, Q.mo_add, listLine, List.length_cons, List.length_nil, Bool.or_false, Bool.and_self, if_true, if_false, Nat.reduceEqDiff, Nat.reduceAdd, Nat.reduceLeDiff, Nat.succ_ne_self, and_self, ne_eq, not_false_eq_true, Int.reduceEq, Int.reduceLT, Int.reduceLE, Int.reduceToNat, Int.reduceAdd, Int.cast_ofNat_Int, Nat.zero_add, idxOf, List.getElem?_cons_zero, List.getElem?_cons_succ, List.set_cons_zero, List.set_cons_succ, h10, e4]
      rfl
    · refine ⟨_, _, _, _, Q.put_get, ?_, ?_, ?_, ?_⟩ <;> omega)
theorem drawn_for (zs : List Int) (n : Nat) (tp : Bool) (S : Sta) (h9 : S 9 = some (.fr (.lst (zs.map .int)))) (hz : zs.length ≤ 63) (h : CellsAt 0 S) : ∃ S1, exS nm fn FT11 sF_law_drawn tp (n + 20) (.for (.two 11 ⟨209,8,209,9⟩ 12 ⟨209,11,209,12⟩ 0 ⟨209,8,209,12⟩) (.bi .enumerate ⟨209,16,209,25⟩ (.cons (.slice (.var 9 ⟨209,26,209,32⟩) .none (.some (.int (60) 0 ⟨209,34,209,36⟩)) ⟨209,33,209,36⟩ ⟨209,26,209,37⟩) .nil) ⟨209,16,209,38⟩) (.cons (.augI 10 ⟨210,8,210,13⟩ (.bin .mod (.var 11 ⟨210,14,210,15⟩) (.int (4) 0 ⟨210,18,210,19⟩) ⟨210,14,210,19⟩) ⟨210,8,210,20⟩ .add (.bin .mod (.var 12 ⟨210,24,210,25⟩) (.int (10000000) 0 ⟨210,28,210,36⟩) ⟨210,24,210,36⟩) ⟨210,8,210,36⟩) .nil) ⟨209,4,210,36⟩) S = some (.next, S1) ∧ CellsAt 60 S1 := by
  have hr9 := Q.rho S 9 _ h9
  have hl : zs.length ≤ 100000 := by omega
  have hlt : (List.drop 0 (List.take (min 60 zs.length) (List.map D.int zs))).length ≤ 100000 := by rw [List.length_drop, List.length_take, List.length_map]; omega
  simp only [Q.var, Q.int, Q.slice, Q.nil, Q.cons, Q.onone, Q.osome, Q.senum, Q.en1, Q.sfor, Q.slL, Q.cutN, Q.cutI, Q.itV_ff, Q.d_fr, Q.o_fr, Q.map_some, Q.tw2, Q.tv2, listLine, List.all_cons, List.all_nil, Bool.true_and, Bool.and_true, Bool.and_self, if_true, Int.reduceLE, Int.reduceToNat, k_law_drawn, hr9, hl, List.length_map, List.drop_zero]
  have hlt' : (List.take (min 60 zs.length) (List.map D.int zs)).length ≤ 60 := by rw [List.length_take]; omega
  have hlt3 : (List.take (min 60 zs.length) (List.map D.int zs)).length ≤ 100000 := by omega
  simp only [hlt3, decide_true, if_true]
  obtain ⟨S1, e1, p1⟩ := Q.loop_inv (f := exB nm fn FT11 sF_law_drawn tp (n + 19) (.cons (.augI 10 ⟨210,8,210,13⟩ (.bin .mod (.var 11 ⟨210,14,210,15⟩) (.int (4) 0 ⟨210,18,210,19⟩) ⟨210,14,210,19⟩) ⟨210,8,210,20⟩ .add (.bin .mod (.var 12 ⟨210,24,210,25⟩) (.int (10000000) 0 ⟨210,28,210,36⟩) ⟨210,24,210,36⟩) ⟨210,8,210,36⟩) .nil)) (tg := (.two 11 ⟨209,8,209,9⟩ 12 ⟨209,11,209,12⟩ 0 ⟨209,8,209,12⟩)) (I := CellsAt) (enumD 0 (List.take (min 60 zs.length) (List.map D.int zs))) 0 S h (fun j d S hd hI => by
    rw [Q.enum_get] at hd
    cases hz : (List.take (min 60 zs.length) (List.map D.int zs))[j]? with
    | none => rw [hz] at hd; cases hd
    | some z =>
    rw [hz] at hd; cases hd
    have hm := List.mem_of_mem_take (List.mem_of_getElem? hz)
    obtain ⟨z, _, rfl⟩ := List.mem_map.mp hm
    obtain ⟨S2, e2, p2⟩ := drawn_turn (n + 7) tp S (0 + j) z (0 + j) hI
    exact ⟨_, S2, rfl, e2, p2⟩)
  refine ⟨S1, e1, ?_⟩
  rw [Q.enum_len] at p1
  obtain ⟨a, b, c, d, h10, ha, hb, hc, hd⟩ := p1
  exact ⟨a, b, c, d, h10, by omega, by omega, by omega, by omega⟩
theorem pool_item {q : Nat} (h : q < 12) : itemD (.lst (pool.map D.str)) (.int (q : Int)) = some (.str (poolAt q)) := by
  rw [Q.itL, Q.idxN _ _ (by show q < (pool.map D.str).length; rw [List.length_map]; exact h), Q.bind_some, if_pos (by rw [List.length_map]; show 12 ≤ 100000; omega), List.getElem?_map]
  unfold poolAt
  rw [List.getD_eq_getElem?_getD, List.getElem?_eq_getElem (show q < pool.length from h)]
  rfl
theorem range5 : rangeD 0 5 = [.int 0, .int 1, .int 2, .int 3, .int 4] := rfl
theorem drawn_texts (A j : Nat) (n : Nat) (tp : Bool) (S : Sta) (b c d : D) (h10 : S 10 = some (.li [.int A, b, c, d])) (h13 : S 13 = some (.fr (.lst (pool.map .str)))) (hA : A < 1000000000) (hj : j = A / 5 % 12) :
    exS nm fn FT11 sF_law_drawn tp (n + 20) (.asg 14 ⟨212,4,212,9⟩ (.lcomp (.item (.var 13 ⟨212,13,212,17⟩) (.bin .mod (.bin .add (.bin .fdiv (.item (.var 10 ⟨212,19,212,24⟩) (.int (0) 0 ⟨212,25,212,26⟩) ⟨212,19,212,27⟩) (.int (5) 0 ⟨212,31,212,32⟩) ⟨212,19,212,32⟩) (.var 11 ⟨212,35,212,36⟩) ⟨212,19,212,36⟩) (.int (12) 0 ⟨212,40,212,42⟩) ⟨212,18,212,42⟩) ⟨212,13,212,43⟩) (.cons (.one 11 ⟨212,48,212,49⟩) (.bi .range ⟨212,53,212,58⟩ (.cons (.int (5) 0 ⟨212,59,212,60⟩) .nil) ⟨212,53,212,61⟩) .nil .nil) sc0 ⟨212,12,212,62⟩) ⟨212,4,212,62⟩) S = some (.next, S.put 14 (.fr (.lst (((List.range 5).map fun i => poolAt ((j + i) % 12)).map .str)))) := by
  have r10 := Q.rho S 10 _ h10
  have r13 := Q.rho S 13 _ h13
  have e : ∀ k : Nat, ((A : Int).fdiv 5 + (k : Int)).fmod 12 = (((j + k) % 12 : Nat) : Int) := fun k => by
    rw [Int.fdiv_eq_ediv_of_nonneg _ (by decide), Int.fmod_eq_emod_of_nonneg _ (by decide)]; omega
  have e0 : ((A : Int).fdiv 5 + 0).fmod 12 = (((j + 0) % 12 : Nat) : Int) := e 0
  have e1 : ((A : Int).fdiv 5 + 1).fmod 12 = (((j + 1) % 12 : Nat) : Int) := e 1
  have e2 : ((A : Int).fdiv 5 + 2).fmod 12 = (((j + 2) % 12 : Nat) : Int) := e 2
  have e3 : ((A : Int).fdiv 5 + 3).fmod 12 = (((j + 3) % 12 : Nat) : Int) := e 3
  have e4 : ((A : Int).fdiv 5 + 4).fmod 12 = (((j + 4) % 12 : Nat) : Int) := e 4
  have hp : ∀ k, itemD (.lst (pool.map D.str)) (.int (((j + k) % 12 : Nat) : Int)) = some (.str (poolAt ((j + k) % 12))) := fun k => pool_item (Nat.mod_lt _ (by decide))
  have hc : itemD (.lst [.int A, b, c, d]) (.int 0) = some (.int A) := rfl
  have hA' : A < 4611686018427387904 := by omega
  simp only [Q.var, Q.int, Q.bin, Q.item, Q.lcomp, Q.nil, Q.cons, Q.srange, Q.rg1, Q.g0, Q.g1, Q.inil, Q.swl, Q.asg, Q.addI, Q.fdivI, Q.modI, Q.itV_ff, Q.itV_i, Q.unt_nil, Q.unt_cons, Q.d_fr, Q.d_li, Q.o_fr, Q.o_li, Q.map_some, Q.b1, Q.tw1, listLine, List.cons_append, List.nil_append, List.map_cons, List.map_nil, List.length_cons, List.length_nil, Bool.not_false, Bool.or_false, Bool.and_self, decide_true, if_true, if_false, beq_self_eq_true, Q.na5, Nat.reduceEqDiff, Nat.reduceAdd, Nat.reduceLT, Nat.reduceLeDiff, and_self, ne_eq, not_false_eq_true, Int.reduceEq, Nat.reducePow, Nat.zero_add, Q.cl_nil, Q.cl_cons, k_law_drawn, r10, r13, range5, hc, e0, e1, e2, e3, e4, hp, hA', Int.natAbs_natCast]
  rfl
noncomputable def lsI (l : List Nat) : List D := l.map fun (x : Nat) => .int x
noncomputable def ArrAt (q p : Nat) (S : Sta) : Prop := ∃ ps : List (List Nat), S 15 = some (.ll ([] :: ps.map lsI)) ∧ ps.length = 5 ∧ ∀ k, k < 5 → ∃ l, ps[k]? = some l ∧ l.length = 2 * q + min 2 (p - 2 * k) ∧ ∀ x ∈ l, x < 6
structure DrI (c10 c14 : Slot) (q p : Nat) (S : Sta) : Prop where
  h10 : S 10 = some c10
  h14 : S 14 = some c14
  arr : ArrAt q p S
theorem inner_turn {c10 c14 : Slot} (n : Nat) (tp : Bool) (S : Sta) (q p r : Nat) (hp : p < 10) (hq : q < 2) (h17 : S 17 = some (.fr (.int r))) (hr : r < 10000000000) (hI : DrI c10 c14 q p S) :
    ∃ S2, exB nm fn FT11 sF_law_drawn tp (n + 14) (.cons (.unp [(17, ⟨217,12,217,16⟩), (19, ⟨217,18,217,22⟩)] 0 ⟨217,12,217,22⟩ (.bi .divmod ⟨217,25,217,31⟩ (.cons (.var 17 ⟨217,32,217,36⟩) (.cons (.int (6) 0 ⟨217,38,217,39⟩) .nil)) ⟨217,25,217,40⟩) ⟨217,12,217,40⟩) (.cons (.appI 15 ⟨218,12,218,18⟩ (.bin .add (.bin .fdiv (.var 18 ⟨218,19,218,24⟩) (.int (2) 0 ⟨218,28,218,29⟩) ⟨218,19,218,29⟩) (.int (1) 0 ⟨218,32,218,33⟩) ⟨218,19,218,33⟩) ⟨218,12,218,34⟩ ⟨218,12,218,41⟩ (.var 19 ⟨218,42,218,46⟩) ⟨218,12,218,47⟩ ⟨218,12,218,47⟩) .nil)) (S.put 18 (.fr (.int p))) = some (.next, S2) ∧ ((∃ r' : Nat, r' < 10000000000 ∧ S2 17 = some (.fr (.int r'))) ∧ DrI c10 c14 q (p + 1) S2) := by
  obtain ⟨h10, h14, ps, h15, hl, hk⟩ := hI
  have r17 := Q.rho S 17 _ h17
  have e1 : (r : Int).fdiv 6 = ((r / 6 : Nat) : Int) := by rw [Int.fdiv_eq_ediv_of_nonneg _ (by decide)]; omega
  have e2 : (r : Int).fmod 6 = ((r % 6 : Nat) : Int) := by rw [Int.fmod_eq_emod_of_nonneg _ (by decide)]; omega
  have e3 : (p : Int).fdiv 2 + 1 = ((p / 2 + 1 : Nat) : Int) := by rw [Int.fdiv_eq_ediv_of_nonneg _ (by decide)]; omega
  have h1 : r < 4611686018427387904 := by omega
  have h2 : p < 4611686018427387904 := by omega
  obtain ⟨l, hl1, hl2, hl3⟩ := hk (p / 2) (by omega)
  have hg : ([] :: ps.map lsI)[p / 2 + 1]? = some (lsI l) := by rw [List.getElem?_cons_succ, List.getElem?_map, hl1]; rfl
  have hll : (lsI l).length ≤ 100000 := by unfold lsI; rw [List.length_map, hl2]; omega
  have hpl : (ps.map lsI).length + 1 ≤ 100000 := by rw [List.length_map, hl]; omega
  have hne : ([] :: ps.map lsI)[p / 2 + 1]? = some (lsI l) := hg
  apply Q.out
  · simp only [Q.var, Q.int, Q.bin, Q.bi, Q.nil, Q.cons, Q.unp, Q.appI, Q.bnil, Q.bcons, Q.addI, Q.fdivI, Q.dvI, Q.itV_ff, Q.rho_put, Q.put_at, Q.d_fr, Q.o_fr, Q.map_some, Q.at_i, Q.pm_nil, Q.pm_cons, listLine, List.nodup_cons, List.mem_cons, List.not_mem_nil, List.nodup_nil, or_self, List.map_cons, List.map_nil, List.length_cons, List.length_nil, List.all_cons, List.all_nil, Bool.or_false, Bool.and_self, decide_true, if_true, if_false, beq_self_eq_true, Q.nt_bi, Q.na2, Q.na6, Nat.reduceEqDiff, Nat.reduceAdd, Nat.reduceLT, Nat.reduceLeDiff, Nat.succ_ne_self, and_self, ne_eq, not_false_eq_true, Int.reduceEq, Nat.reducePow, Nat.zero_lt_succ, Nat.zero_add, k_law_drawn, r17, h15, e1, e2, e3, h1, h2, Int.natAbs_natCast, Int.natCast_nonneg, Int.toNat_natCast, List.getElem?_cons_succ, List.getElem?_map, hl1, hll, List.length_map, hl, Q.na2]
    rfl
  · refine ⟨⟨r / 6, by omega, ?_⟩, ?_, ?_, ps.set (p / 2) (l ++ [r % 6]), ?_, by rw [List.length_set]; exact hl, fun k hk5 => ?_⟩
    · simp only [Q.put_at, reduceIte, Nat.reduceEqDiff]
    · simp only [Q.put_at, reduceIte, Nat.reduceEqDiff]; exact h10
    · simp only [Q.put_at, reduceIte, Nat.reduceEqDiff]; exact h14
    · simp only [Q.put_at, reduceIte, List.set_cons_succ, List.map_set]
      unfold lsI; rw [List.map_append]; rfl
    · by_cases e : k = p / 2
      · subst e
        refine ⟨l ++ [r % 6], by rw [List.getElem?_set_self (by omega)], by rw [List.length_append, hl2]; simp; omega, fun x hx => ?_⟩
        rcases List.mem_append.mp hx with hx | hx
        · exact hl3 x hx
        · rw [List.mem_singleton.mp hx]; omega
      · obtain ⟨l', a1, a2, a3⟩ := hk k hk5
        exact ⟨l', by rw [List.getElem?_set_ne (by omega)]; exact a1, by omega, a3⟩
theorem pile_turn {c10 c14 : Slot} (n : Nat) (tp : Bool) (S : Sta) (q r : Nat) (hq : q < 2) (hr : r < 10000000000) (hI : DrI c10 c14 q 0 S) :
    ∃ S2, exB nm fn FT11 sF_law_drawn tp (n + 24) (.cons (.asg 17 ⟨215,8,215,12⟩ (.var 16 ⟨215,15,215,19⟩) ⟨215,8,215,19⟩) (.cons (.for (.one 18 ⟨216,12,216,17⟩) (.bi .range ⟨216,21,216,26⟩ (.cons (.int (10) 0 ⟨216,27,216,29⟩) .nil) ⟨216,21,216,30⟩) (.cons (.unp [(17, ⟨217,12,217,16⟩), (19, ⟨217,18,217,22⟩)] 0 ⟨217,12,217,22⟩ (.bi .divmod ⟨217,25,217,31⟩ (.cons (.var 17 ⟨217,32,217,36⟩) (.cons (.int (6) 0 ⟨217,38,217,39⟩) .nil)) ⟨217,25,217,40⟩) ⟨217,12,217,40⟩) (.cons (.appI 15 ⟨218,12,218,18⟩ (.bin .add (.bin .fdiv (.var 18 ⟨218,19,218,24⟩) (.int (2) 0 ⟨218,28,218,29⟩) ⟨218,19,218,29⟩) (.int (1) 0 ⟨218,32,218,33⟩) ⟨218,19,218,33⟩) ⟨218,12,218,34⟩ ⟨218,12,218,41⟩ (.var 19 ⟨218,42,218,46⟩) ⟨218,12,218,47⟩ ⟨218,12,218,47⟩) .nil)) ⟨216,8,218,47⟩) .nil)) (S.put 16 (.fr (.int r))) = some (.next, S2) ∧ DrI c10 c14 (q + 1) 0 S2 := by
  obtain ⟨h10, h14, ha⟩ := hI
  refine Q.seqN (P := fun S1 => S1 17 = some (.fr (.int r)) ∧ DrI c10 c14 q 0 S1) ?_ fun S1 h1 => ?_
  · apply Q.out
    · simp only [Q.var, Q.asg, Q.rho_put, Q.d_fr, Q.o_fr, Bool.and_self, if_true, Q.sw_var, k_law_drawn]
      rfl
    · obtain ⟨ps, h15, a, b⟩ := ha
      refine ⟨Q.put_get, ?_, ?_, ps, ?_, a, b⟩
      · simp only [Q.put_at, reduceIte, Nat.reduceEqDiff]; exact h10
      · simp only [Q.put_at, reduceIte, Nat.reduceEqDiff]; exact h14
      · simp only [Q.put_at, reduceIte, Nat.reduceEqDiff]; exact h15
  · refine Q.seqN (P := fun S1 => DrI c10 c14 q 10 S1) ?_ fun S2 h2 => ?_
    · simp only [Q.int, Q.nil, Q.cons, Q.srange, Q.rg1, Q.sfor, Q.tw1, Q.tv1, List.all_cons, List.all_nil, Bool.and_self, decide_true, if_true, beq_self_eq_true, Q.na10, Nat.reduceLT, k_law_drawn]
      obtain ⟨S2, e2, p2⟩ := Q.loop_inv (f := exB nm fn FT11 sF_law_drawn tp (n + 21) (.cons (.unp [(17, ⟨217,12,217,16⟩), (19, ⟨217,18,217,22⟩)] 0 ⟨217,12,217,22⟩ (.bi .divmod ⟨217,25,217,31⟩ (.cons (.var 17 ⟨217,32,217,36⟩) (.cons (.int (6) 0 ⟨217,38,217,39⟩) .nil)) ⟨217,25,217,40⟩) ⟨217,12,217,40⟩) (.cons (.appI 15 ⟨218,12,218,18⟩ (.bin .add (.bin .fdiv (.var 18 ⟨218,19,218,24⟩) (.int (2) 0 ⟨218,28,218,29⟩) ⟨218,19,218,29⟩) (.int (1) 0 ⟨218,32,218,33⟩) ⟨218,19,218,33⟩) ⟨218,12,218,34⟩ ⟨218,12,218,41⟩ (.var 19 ⟨218,42,218,46⟩) ⟨218,12,218,47⟩ ⟨218,12,218,47⟩) .nil))) (tg := (.one 18 ⟨216,12,216,17⟩)) (I := fun p S => (∃ r' : Nat, r' < 10000000000 ∧ S 17 = some (.fr (.int r'))) ∧ DrI c10 c14 q p S) (rangeD 0 10) 0 S1 ⟨⟨r, hr, h1.1⟩, h1.2⟩ (fun j d S hd hI => by
        have hj : j < 10 := by
          have := (List.getElem?_eq_some_iff.mp hd).1
          rw [Q.range_len] at this; exact this
        rw [Q.range_get _ _ _ (by omega)] at hd
        cases hd
        obtain ⟨⟨r', hr', h17⟩, hD⟩ := hI
        obtain ⟨S2, e2, p2⟩ := inner_turn (n + 7) tp S q j r' hj hq h17 hr' (by rw [Nat.zero_add] at hD; exact hD)
        refine ⟨_, S2, rfl, ?_, by rw [Nat.zero_add]; exact p2⟩
        rw [Int.zero_add]; exact e2)
      exact ⟨S2, e2, p2.2⟩
    · refine ⟨S2, rfl, h2.h10, h2.h14, ?_⟩
      obtain ⟨ps, h15, a, b⟩ := h2.arr
      refine ⟨ps, h15, a, fun k hk => ?_⟩
      obtain ⟨l, c, d, e⟩ := b k hk
      exact ⟨l, c, by omega, e⟩
theorem g_drawn (zs : List Int) (hz : zs.length ≤ 63) : ∃ (k j : Nat) (ps : List (List Nat)) (r : Nat), k < 5 ∧ j < 12 ∧ ps.length = 5 ∧ (∀ i, i < 5 → ∃ l, ps[i]? = some l ∧ l.length = 4 ∧ ∀ x ∈ l, x < 6) ∧ r < 10000000000 ∧
    E11.g [.lst (zs.map .int)] = some (.tup [.int k, .lst (((List.range 5).map fun i => poolAt ((j + i) % 12)).map .str), .lst (([] :: ps.map lsI).map .lst), .int r]) := by
  generalize htp : (!dF_law_drawn.exact) = tp
  have s0 : exS nm fn FT11 sF_law_drawn tp 199 (.own 10 ⟨208,4,208,9⟩ (.list (.cons (.int (17) 0 ⟨208,13,208,15⟩) (.cons (.int (17614286) 0 ⟨208,17,208,25⟩) (.cons (.int (3501972) 0 ⟨208,27,208,34⟩) (.cons (.int (3) 0 ⟨208,36,208,37⟩) .nil)))) ⟨208,12,208,38⟩) ⟨208,4,208,38⟩) (staOf pF_law_drawn [.lst (zs.map .int)]) = some (.next, (staOf pF_law_drawn [.lst (zs.map .int)]).put 10 (.li [.int 17, .int 17614286, .int 3501972, .int 3])) := by
    simp only [Q.int, Q.list, Q.nil, Q.cons, Q.own, Q.unt_nil, Q.unt_cons, Q.map_some, Q.so_li, Q.at_i, List.map_cons, List.map_nil, List.length_cons, List.length_nil, List.all_cons, List.all_nil, Bool.not_true, Bool.not_false, Bool.and_self, if_true, Q.sw_list, Nat.reduceAdd, Nat.reduceLeDiff, Nat.zero_add, k_law_drawn]
  obtain ⟨S1, e1, a, b, c, d, h10, ha, hb, hc, hd⟩ := drawn_for zs 178 tp ((staOf pF_law_drawn [.lst (zs.map .int)]).put 10 (.li [.int 17, .int 17614286, .int 3501972, .int 3])) (by unfold pF_law_drawn; simp only [Q.staOf_cons, Q.put_at, reduceIte, Nat.reduceEqDiff]) hz ⟨17, 17614286, 3501972, 3, Q.put_get, by omega, by omega, by omega, by omega⟩
  obtain ⟨A, rfl⟩ := Int.eq_ofNat_of_zero_le ha.1
  obtain ⟨B, rfl⟩ := Int.eq_ofNat_of_zero_le hb.1
  obtain ⟨C, rfl⟩ := Int.eq_ofNat_of_zero_le hc.1
  obtain ⟨E, rfl⟩ := Int.eq_ofNat_of_zero_le hd.1
  have s2 : exS nm fn FT11 sF_law_drawn tp 197 (.asg 13 ⟨211,4,211,8⟩ (.list (.cons (.str "\t" 0 ⟨211,12,211,16⟩) (.cons (.str "\n" 0 ⟨211,18,211,22⟩) (.cons (.str "\r" 0 ⟨211,24,211,28⟩) (.cons (.str "\"" 0 ⟨211,30,211,33⟩) (.cons (.str "&" 0 ⟨211,35,211,38⟩) (.cons (.str "&lt;" 0 ⟨211,40,211,46⟩) (.cons (.str "#" 0 ⟨211,48,211,51⟩) (.cons (.str "'" 0 ⟨211,53,211,56⟩) (.cons (.str "<" 0 ⟨211,58,211,61⟩) (.cons (.str "=" 0 ⟨211,63,211,66⟩) (.cons (.str ">" 0 ⟨211,68,211,71⟩) (.cons (.str "a" 0 ⟨211,73,211,76⟩) .nil)))))))))))) ⟨211,11,211,77⟩) ⟨211,4,211,77⟩) S1 = some (.next, S1.put 13 (.fr (.lst (pool.map .str)))) := by
    simp only [Q.str, Q.list, Q.nil, Q.cons, Q.asg, Q.unt_nil, Q.unt_cons, List.map_cons, List.map_nil, List.length_cons, List.length_nil, Bool.not_true, Bool.not_false, Bool.and_self, if_true, Q.sw_list, Nat.reduceAdd, Nat.reduceLeDiff, Nat.zero_add, k_law_drawn]; rfl
  have s3 := drawn_texts A (A / 5 % 12) 176 tp (S1.put 13 (.fr (.lst (pool.map .str)))) (.int B) (.int C) (.int E) (by simp only [Q.put_at, reduceIte, Nat.reduceEqDiff]; exact h10) Q.put_get (by omega) rfl
  generalize hT : Slot.fr (.lst (((List.range 5).map fun i => poolAt ((A / 5 % 12 + i) % 12)).map .str)) = T at s3
  generalize hS3 : (S1.put 13 (.fr (.lst (pool.map .str)))).put 14 T = S3 at s3
  have h3 : S3 10 = some (.li [.int A, .int B, .int C, .int E]) ∧ S3 14 = some T := by subst hS3; refine ⟨?_, Q.put_get⟩; simp only [Q.put_at, reduceIte, Nat.reduceEqDiff]; exact h10
  have s4 : exS nm fn FT11 sF_law_drawn tp 195 (.ownL 15 ⟨213,4,213,10⟩ ⟨213,13,213,37⟩ [⟨213,14,213,16⟩, ⟨213,18,213,20⟩, ⟨213,22,213,24⟩, ⟨213,26,213,28⟩, ⟨213,30,213,32⟩, ⟨213,34,213,36⟩] ⟨213,4,213,37⟩) S3 = some (.next, S3.put 15 (.ll [[], [], [], [], [], []])) := by
    simp only [Q.ownL, List.map_cons, List.map_nil, List.length_cons, List.length_nil, Bool.and_self, decide_true, if_true, Nat.reduceAdd, Nat.reduceLeDiff, Nat.zero_add, k_law_drawn]
  have s5 : exS nm fn FT11 sF_law_drawn tp 194 (.frz 10) (S3.put 15 (.ll [[], [], [], [], [], []])) = some (.next, (S3.put 15 (.ll [[], [], [], [], [], []])).put 10 (.fr (.lst [.int A, .int B, .int C, .int E]))) := by
    simp only [Q.sfrz, Q.put_at, Q.d_li, if_false, Nat.reduceEqDiff, h3.1]
  generalize hS5 : (S3.put 15 (.ll [[], [], [], [], [], []])).put 10 (.fr (.lst [.int A, .int B, .int C, .int E])) = S5 at s5
  have hI : DrI (.fr (.lst [.int A, .int B, .int C, .int E])) T 0 0 S5 := by
    subst hS5
    refine ⟨Q.put_get, ?_, [[], [], [], [], []], ?_, rfl, fun k hk => ⟨[], ?_, by show 0 = 2 * 0 + min 2 (0 - 2 * k); omega, fun x hx => by cases hx⟩⟩
    · simp only [Q.put_at, reduceIte, Nat.reduceEqDiff]; exact h3.2
    · simp only [Q.put_at, reduceIte, Nat.reduceEqDiff]; rfl
    · have : k = 0 ∨ k = 1 ∨ k = 2 ∨ k = 3 ∨ k = 4 := by omega
      rcases this with rfl | rfl | rfl | rfl | rfl <;> rfl
  obtain ⟨S6, e6, p6⟩ := pile_turn 168 tp S5 0 B (by omega) (by omega) hI
  obtain ⟨S7, e7, p7⟩ := pile_turn 168 tp S6 1 C (by omega) (by omega) p6
  have s6 : exS nm fn FT11 sF_law_drawn tp 193 (.for (.one 16 ⟨214,8,214,12⟩) (.slice (.var 10 ⟨214,16,214,21⟩) (.some (.int (1) 0 ⟨214,22,214,23⟩)) (.some (.int (3) 0 ⟨214,24,214,25⟩)) ⟨214,22,214,25⟩ ⟨214,16,214,26⟩) (.cons (.asg 17 ⟨215,8,215,12⟩ (.var 16 ⟨215,15,215,19⟩) ⟨215,8,215,19⟩) (.cons (.for (.one 18 ⟨216,12,216,17⟩) (.bi .range ⟨216,21,216,26⟩ (.cons (.int (10) 0 ⟨216,27,216,29⟩) .nil) ⟨216,21,216,30⟩) (.cons (.unp [(17, ⟨217,12,217,16⟩), (19, ⟨217,18,217,22⟩)] 0 ⟨217,12,217,22⟩ (.bi .divmod ⟨217,25,217,31⟩ (.cons (.var 17 ⟨217,32,217,36⟩) (.cons (.int (6) 0 ⟨217,38,217,39⟩) .nil)) ⟨217,25,217,40⟩) ⟨217,12,217,40⟩) (.cons (.appI 15 ⟨218,12,218,18⟩ (.bin .add (.bin .fdiv (.var 18 ⟨218,19,218,24⟩) (.int (2) 0 ⟨218,28,218,29⟩) ⟨218,19,218,29⟩) (.int (1) 0 ⟨218,32,218,33⟩) ⟨218,19,218,33⟩) ⟨218,12,218,34⟩ ⟨218,12,218,41⟩ (.var 19 ⟨218,42,218,46⟩) ⟨218,12,218,47⟩ ⟨218,12,218,47⟩) .nil)) ⟨216,8,218,47⟩) .nil)) ⟨214,4,218,47⟩) S5 = some (.next, S7) := by
    have r10 := Q.rho S5 10 _ hI.h10
    have hsrc : evSrc nm fn FT11 192 sF_law_drawn (.slice (.var 10 ⟨214,16,214,21⟩) (.some (.int (1) 0 ⟨214,22,214,23⟩)) (.some (.int (3) 0 ⟨214,24,214,25⟩)) ⟨214,22,214,25⟩ ⟨214,16,214,26⟩) tp (rhoOf S5) = some ([.int B, .int C], false, false) := by
      simp only [Q.var, Q.int, Q.slice, Q.osome, Q.sr_l, Q.sslice, Q.slL, Q.cutI, Q.itV_ff, Q.d_fr, Q.o_fr, Q.map_some, listLine, List.length_cons, List.length_nil, if_true, Nat.reduceAdd, Nat.reduceLeDiff, Int.reduceLE, Int.reduceToNat, Nat.zero_add, r10]
      rfl
    rw [Q.sfor, hsrc]
    simp only [Q.tw1, Q.tv1, k_law_drawn, List.all_cons, List.all_nil, Bool.and_true, beq_self_eq_true, if_true]
    rw [Q.lp_cons]
    dsimp only [Q.bs1]
    rw [e6]
    dsimp only
    rw [Q.lp_cons]
    dsimp only [Q.bs1]
    rw [e7]
    rfl
  obtain ⟨q10, q14, ps, q15, hl, hps⟩ := p7
  refine ⟨A % 5, A / 5 % 12, ps, E, by omega, by omega, hl, fun i hi => ?_, by omega, ?_⟩
  · obtain ⟨l, u, v, w⟩ := hps i hi
    exact ⟨l, u, by omega, w⟩
  rw [e11_g]
  refine Q.gOf_ex (ds' := [.lst (zs.map .int)]) rfl rfl ?_
  rw [htp]
  have s7 : exS nm fn FT11 sF_law_drawn tp 192 (.frz 15) S7 = some (.next, S7.put 15 (.fr (.lst (([] :: ps.map lsI).map .lst)))) := by
    rw [Q.sfrz, q15]; rfl
  have s8 : exS nm fn FT11 sF_law_drawn tp 191 (.ret (.tup (.cons (.bin .mod (.item (.var 10 ⟨219,12,219,17⟩) (.int (0) 0 ⟨219,18,219,19⟩) ⟨219,12,219,20⟩) (.int (5) 0 ⟨219,23,219,24⟩) ⟨219,12,219,24⟩) (.cons (.var 14 ⟨219,26,219,31⟩) (.cons (.var 15 ⟨219,33,219,39⟩) (.cons (.item (.var 10 ⟨219,41,219,46⟩) (.int (3) 0 ⟨219,47,219,48⟩) ⟨219,41,219,49⟩) .nil)))) 0 ⟨219,11,219,50⟩) ⟨219,4,219,50⟩) (S7.put 15 (.fr (.lst (([] :: ps.map lsI).map .lst)))) = some (.ret (.tup [.int ((A % 5 : Nat) : Int), .lst (((List.range 5).map fun i => poolAt ((A / 5 % 12 + i) % 12)).map .str), .lst (([] :: ps.map lsI).map .lst), .int E]), S7.put 15 (.fr (.lst (([] :: ps.map lsI).map .lst)))) := by
    have r10 := Q.rho S7 10 _ q10
    have r14 := Q.rho S7 14 _ q14
    subst hT
    have e5 : (A : Int).fmod 5 = ((A % 5 : Nat) : Int) := by rw [Int.fmod_eq_emod_of_nonneg _ (by decide)]; omega
    have c0 : itemD (.lst [.int A, .int B, .int C, .int E]) (.int 0) = some (.int A) := rfl
    have c3 : itemD (.lst [.int A, .int B, .int C, .int E]) (.int 3) = some (.int E) := rfl
    simp only [Q.var, Q.int, Q.bin, Q.item, Q.tup, Q.nil, Q.cons, Q.sret, Q.modI, Q.itV_ff, Q.unt_nil, Q.unt_cons, Q.rho_put, Q.d_fr, Q.o_fr, Q.map_some, List.map_cons, List.map_nil, List.length_cons, List.length_nil, Bool.not_true, Bool.not_false, Bool.or_false, Bool.and_self, if_true, if_false, Nat.reduceEqDiff, Nat.reduceAdd, Nat.reduceLeDiff, ne_eq, not_false_eq_true, Int.reduceEq, Nat.zero_add, r10, r14, c0, c3, e5]
  refine ⟨S7.put 15 (.fr (.lst (([] :: ps.map lsI).map .lst))), ?_⟩
  unfold bF_law_drawn
  rw [Q.bcons, s0]
  dsimp only
  rw [Q.bcons, e1]
  dsimp only
  rw [Q.bcons, s2]
  dsimp only
  rw [Q.bcons, s3]
  dsimp only
  rw [Q.bcons, s4]
  dsimp only
  rw [Q.bcons, s5]
  dsimp only
  rw [Q.bcons, s6]
  dsimp only
  rw [Q.bcons, s7]
  dsimp only
  rw [Q.bcons, s8]
end Mine.L2
end
section
set_option maxRecDepth 100000
open PySem PySem.W PyProof.Rows PySem.Calls
set_option autoImplicit false
namespace Mine.L2
open Ri
noncomputable def arF (ps : List (List Nat)) (k j : Nat) : Nat := (ps.getD (k - 1) [] ++ [0]).getD j 0
structure Piles (ps : List (List Nat)) : Prop where
  len : ps.length = 5
  all : ∀ i, i < 5 → ∃ l, ps[i]? = some l ∧ l.length = 4 ∧ ∀ x ∈ l, x < 6
noncomputable def arrD (ps : List (List Nat)) : D := .lst (([] :: ps.map lsI).map .lst)
theorem Piles.getD {ps : List (List Nat)} (h : Piles ps) (i : Nat) : (ps.getD i []).length ≤ 4 ∧ ∀ x ∈ ps.getD i [], x < 6 := by
  rw [List.getD_eq_getElem?_getD]
  by_cases hi : i < 5
  · obtain ⟨l, e, a, b⟩ := h.all i hi
    rw [e]; exact ⟨Nat.le_of_eq a, b⟩
  · rw [List.getElem?_eq_none (by rw [h.len]; omega)]; exact ⟨by simp, fun x hx => by simp at hx⟩
theorem Piles.le {ps : List (List Nat)} (h : Piles ps) (k j : Nat) : arF ps k j ≤ 5 := by
  unfold arF
  rw [List.getD_eq_getElem?_getD]
  cases e : (ps.getD (k - 1) [] ++ [0])[j]? with
  | none => simp
  | some x =>
    have := List.mem_of_getElem? e
    rcases List.mem_append.mp this with q | q
    · have := (h.getD (k - 1)).2 x q; show x ≤ 5; omega
    · rw [List.mem_singleton.mp q]; simp
theorem Piles.far {ps : List (List Nat)} (h : Piles ps) (k j : Nat) (hj : 4 ≤ j) : arF ps k j = 0 := by
  unfold arF
  rw [List.getD_eq_getElem?_getD]
  have hl := (h.getD (k - 1)).1
  rw [List.getElem?_append]
  split
  · omega
  · cases e : ([0] : List Nat)[j - (ps.getD (k - 1) []).length]? with
    | none => rfl
    | some x => rw [List.mem_singleton.mp (List.mem_of_getElem? e)]; rfl
theorem Piles.top_le {ps : List (List Nat)} (h : Piles ps) (l : Nat → Nat) (k : Nat) : top (arF ps) l k ≤ 5 := by
  unfold top; split
  · omega
  · exact h.le _ _
theorem Piles.item {ps : List (List Nat)} (h : Piles ps) {k : Nat} (h1 : 1 ≤ k) (h5 : k ≤ 5) : itemD (arrD ps) (.int (k : Nat)) = some (.lst (lsI (ps.getD (k - 1) []))) := by
  obtain ⟨l, e, a, b⟩ := h.all (k - 1) (by omega)
  have hlen : (([] :: ps.map lsI).map D.lst).length = 6 := by simp [h.len]
  unfold arrD
  rw [Q.itL, Q.idxN _ _ (by rw [hlen]; omega), Q.bind_some, if_pos (by rw [hlen]; unfold listLine; omega), List.getElem?_map]
  obtain ⟨m, rfl⟩ : ∃ m, k = m + 1 := ⟨k - 1, by omega⟩
  have e : ps[m]? = some l := e
  rw [List.getElem?_cons_succ, List.getElem?_map, List.getD_eq_getElem?_getD, show m + 1 - 1 = m from rfl, e]; rfl
theorem Piles.drawn {ps : List (List Nat)} (h : Piles ps) {k j : Nat} (h1 : 1 ≤ k) (h5 : k ≤ 5) (hj : j ≤ 4) : itemD (.lst (lsI (ps.getD (k - 1) []) ++ [.int 0])) (.int (j : Nat)) = some (.int (arF ps k j : Nat)) := by
  obtain ⟨l, e, a, b⟩ := h.all (k - 1) (by omega)
  have e2 : ps.getD (k - 1) [] = l := by rw [List.getD_eq_getElem?_getD, e]; rfl
  have e3 : lsI l ++ [D.int 0] = lsI (l ++ [0]) := by unfold lsI; rw [List.map_append]; rfl
  unfold arF
  rw [e2, e3]
  have hl : (lsI (l ++ [0])).length = 5 := by unfold lsI; simp [a]
  rw [Q.itL, Q.idxN _ _ (by rw [hl]; omega), Q.bind_some, if_pos (by rw [hl]; unfold listLine; omega)]
  unfold lsI
  rw [List.getElem?_map, List.getD_eq_getElem?_getD, List.getElem?_eq_getElem (by simp [a]; omega)]; rfl
noncomputable def sixD (f : Nat → Nat) : List D := [.int (f 0 : Nat), .int (f 1 : Nat), .int (f 2 : Nat), .int (f 3 : Nat), .int (f 4 : Nat), .int (f 5 : Nat)]
theorem six_item (f : Nat → Nat) {k : Nat} (h : k ≤ 5) : itemD (.lst (sixD f)) (.int (k : Nat)) = some (.int (f k : Nat)) := by
  have : k = 0 ∨ k = 1 ∨ k = 2 ∨ k = 3 ∨ k = 4 ∨ k = 5 := by omega
  rcases this with rfl | rfl | rfl | rfl | rfl | rfl <;> rfl
theorem six_set (f : Nat → Nat) {k v : Nat} (h : k ≤ 5) : (sixD f).set k (.int (v : Nat)) = sixD (fun i => if i = k then v else f i) := by
  have : k = 0 ∨ k = 1 ∨ k = 2 ∨ k = 3 ∨ k = 4 ∨ k = 5 := by omega
  rcases this with rfl | rfl | rfl | rfl | rfl | rfl <;> rfl
theorem six_len (f : Nat → Nat) : (sixD f).length = 6 := rfl
theorem range16 : rangeD 1 6 = [.int (1 : Nat), .int (2 : Nat), .int (3 : Nat), .int (4 : Nat), .int (5 : Nat)] := rfl
theorem due_tops {ps : List (List Nat)} (P : Piles ps) (n : Nat) (S : Sta) (tp : Bool) (l : Nat → Nat) (hl : ∀ k, l k ≤ 4) (h15 : S 15 = some (.fr (arrD ps))) (h23 : S 23 = some (.li (sixD l))) :
    exS nm fn FT14 sF_law_due tp (n + 24) (.asg 25 ⟨237,8,237,12⟩ (.bin .add (.list (.cons (.int (0) 0 ⟨237,16,237,17⟩) .nil) ⟨237,15,237,18⟩) (.lcomp (.item (.bin .add (.item (.var 15 ⟨237,23,237,29⟩) (.var 11 ⟨237,30,237,31⟩) ⟨237,23,237,32⟩) (.list (.cons (.int (0) 0 ⟨237,36,237,37⟩) .nil) ⟨237,35,237,38⟩) ⟨237,23,237,38⟩) (.item (.var 23 ⟨237,40,237,44⟩) (.var 11 ⟨237,45,237,46⟩) ⟨237,40,237,47⟩) ⟨237,22,237,48⟩) (.cons (.one 11 ⟨237,53,237,54⟩) (.bi .range ⟨237,58,237,63⟩ (.cons (.int (1) 0 ⟨237,64,237,65⟩) (.cons (.int (6) 0 ⟨237,67,237,68⟩) .nil)) ⟨237,58,237,69⟩) .nil .nil) sc2 ⟨237,21,237,70⟩) ⟨237,15,237,70⟩) ⟨237,8,237,70⟩) S = some (.next, S.put 25 (.fr (.lst (sixD (top (arF ps) l))))) := by
  have r15 := Q.rho S 15 _ h15
  have r23 := Q.rho S 23 _ h23
  have a1 : itemD (arrD ps) (.int 1) = some (.lst (lsI (ps.getD 0 []))) := P.item (k := 1) (by omega) (by omega)
  have a2 : itemD (arrD ps) (.int 2) = some (.lst (lsI (ps.getD 1 []))) := P.item (k := 2) (by omega) (by omega)
  have a3 : itemD (arrD ps) (.int 3) = some (.lst (lsI (ps.getD 2 []))) := P.item (k := 3) (by omega) (by omega)
  have a4 : itemD (arrD ps) (.int 4) = some (.lst (lsI (ps.getD 3 []))) := P.item (k := 4) (by omega) (by omega)
  have a5 : itemD (arrD ps) (.int 5) = some (.lst (lsI (ps.getD 4 []))) := P.item (k := 5) (by omega) (by omega)
  have l1 : itemD (.lst (sixD l)) (.int 1) = some (.int (l 1 : Nat)) := six_item l (k := 1) (by omega)
  have l2 : itemD (.lst (sixD l)) (.int 2) = some (.int (l 2 : Nat)) := six_item l (k := 2) (by omega)
  have l3 : itemD (.lst (sixD l)) (.int 3) = some (.int (l 3 : Nat)) := six_item l (k := 3) (by omega)
  have l4 : itemD (.lst (sixD l)) (.int 4) = some (.int (l 4 : Nat)) := six_item l (k := 4) (by omega)
  have l5 : itemD (.lst (sixD l)) (.int 5) = some (.int (l 5 : Nat)) := six_item l (k := 5) (by omega)
  have b1 : itemD (.lst (lsI (ps.getD 0 []) ++ [.int 0])) (.int (l 1 : Nat)) = some (.int (arF ps 1 (l 1) : Nat)) := P.drawn (k := 1) (by omega) (by omega) (hl 1)
  have b2 : itemD (.lst (lsI (ps.getD 1 []) ++ [.int 0])) (.int (l 2 : Nat)) = some (.int (arF ps 2 (l 2) : Nat)) := P.drawn (k := 2) (by omega) (by omega) (hl 2)
  have b3 : itemD (.lst (lsI (ps.getD 2 []) ++ [.int 0])) (.int (l 3 : Nat)) = some (.int (arF ps 3 (l 3) : Nat)) := P.drawn (k := 3) (by omega) (by omega) (hl 3)
  have b4 : itemD (.lst (lsI (ps.getD 3 []) ++ [.int 0])) (.int (l 4 : Nat)) = some (.int (arF ps 4 (l 4) : Nat)) := P.drawn (k := 4) (by omega) (by omega) (hl 4)
  have b5 : itemD (.lst (lsI (ps.getD 4 []) ++ [.int 0])) (.int (l 5 : Nat)) = some (.int (arF ps 5 (l 5) : Nat)) := P.drawn (k := 5) (by omega) (by omega) (hl 5)
  have ln : ∀ i, (lsI (ps.getD i [])).length + 1 ≤ 100000 := fun i => by unfold lsI; rw [List.length_map]; have := (P.getD i).1; omega
  have itl : ∀ (ds : List D), itV (.lst ds) false = (.lst ds, false) := fun _ => rfl
  simp only [Q.var, Q.int, Q.bin, Q.item, Q.list, Q.lcomp, Q.nil, Q.cons, Q.srange, Q.rg2, Q.g0, Q.g1, Q.inil, Q.asg, Q.addL, Q.itV_ff, Q.itV_i, Q.unt_nil, Q.unt_cons, Q.d_fr, Q.d_li, Q.o_fr, Q.o_li, Q.map_some, Q.b1, Q.tw1, listLine, List.cons_append, List.nil_append, List.map_cons, List.map_nil, List.length_cons, List.length_nil, Bool.not_true, Bool.not_false, Bool.or_false, Bool.and_self, decide_true, if_true, if_false, beq_self_eq_true, Q.sw_bin, Q.na1, Q.na6, Nat.reduceEqDiff, Nat.reduceAdd, Nat.reduceLT, Nat.reduceLeDiff, and_self, Int.cast_ofNat_Int, Nat.zero_add, k_law_due, r15, r23, range16, Q.cl_nil, Q.cl_cons, a1, a2, a3, a4, a5, l1, l2, l3, l4, l5, b1, b2, b3, b4, b5, ln]
  rfl
end Mine.L2
end
section
set_option maxRecDepth 100000
open PySem PySem.W PyProof.Rows PySem.Calls
set_option autoImplicit false
namespace Mine.L2
open Ri Q
noncomputable def orb (f : Nat → Nat) (x d : Nat) : List Nat := (List.range d).map fun i => it f i x
theorem orb_succ (f : Nat → Nat) (x d : Nat) : orb f x (d + 1) = orb f x d ++ [it f d x] := by unfold orb; rw [List.range_succ, List.map_append]; rfl
theorem orb_len (f : Nat → Nat) (x d : Nat) : (orb f x d).length = d := by unfold orb; simp
theorem lsI_len (l : List Nat) : (lsI l).length = l.length := by unfold lsI; simp
theorem lsI_snoc (l : List Nat) (x : Nat) : lsI (l ++ [x]) = lsI l ++ [.int (x : Nat)] := by unfold lsI; rw [List.map_append]; rfl
theorem orb_last (f : Nat → Nat) (x i : Nat) (h : i < 6) : itemD (.lst (lsI (orb f x (i + 1)))) (.int (-1)) = some (.int (it f i x : Nat)) := by
  have hl : (lsI (orb f x (i + 1))).length = i + 1 := by rw [lsI_len, orb_len]
  rw [Q.itL, hl, Q.idxNeg, Q.bind_some, if_pos (by unfold listLine; omega), orb_succ, lsI_snoc, List.getElem?_append_right (by rw [lsI_len, orb_len]; omega), lsI_len, orb_len]
  simp
theorem natne (a b : Nat) : (((a : Nat) : Int) != ((b : Nat) : Int)) = (a != b) := by
  by_cases h : a = b
  · subst h; simp
  · have : ((a : Nat) : Int) ≠ ((b : Nat) : Int) := by omega
    rw [bne_iff_ne.mpr this, bne_iff_ne.mpr h]
theorem ring_while {f : Nat → Nat} {x d : Nat} {tp : Bool} (hf : ∀ k, f k ≤ 5) (hx : x ≤ 5) (hd : d ≤ 5) (hp : it f d x = x) (hmin : ∀ j, 0 < j → j < d → it f j x ≠ x) : ∀ (m i n : Nat) (S : Sta), i + 1 + m = d → S 25 = some (.fr (.lst (sixD f))) → S 26 = some (.fr (.int (x : Nat))) → S 24 = some (.li (lsI (orb f x (i + 1)))) →
    ∃ S', exW nm fn FT14 sF_law_due tp (n + 20 + m) (.cmp .ne (.item (.var 25 ⟨243,22,243,26⟩) (.item (.var 24 ⟨243,27,243,31⟩) (.neg (.int (1) 0 ⟨243,33,243,34⟩) ⟨243,32,243,34⟩) ⟨243,27,243,35⟩) ⟨243,22,243,36⟩) (.var 26 ⟨243,40,243,42⟩) ⟨243,22,243,42⟩) (.cons (.app 24 ⟨244,20,244,24⟩ ⟨244,20,244,31⟩ (.item (.var 25 ⟨244,32,244,36⟩) (.item (.var 24 ⟨244,37,244,41⟩) (.neg (.int (1) 0 ⟨244,43,244,44⟩) ⟨244,42,244,44⟩) ⟨244,37,244,45⟩) ⟨244,32,244,46⟩) ⟨244,20,244,47⟩ ⟨244,20,244,47⟩) .nil) S = some (.next, S') ∧ S' 24 = some (.li (lsI (orb f x d))) ∧ Off [24] S S' := by
  have ile : ∀ j, it f j x ≤ 5 := fun j => by
    cases j with
    | zero => exact hx
    | succ j => rw [it_succ]; exact hf _
  intro m
  induction m with
  | zero =>
    intro i n S hi h25 h26 h24
    have r25 := Q.rho S 25 _ h25
    have r26 := Q.rho S 26 _ h26
    have r24 := Q.rho S 24 _ h24
    have e1 := orb_last f x i (by omega)
    have e2 := six_item f (ile i)
    have e3 : f (it f i x) = x := by
      have := it_succ f i x
      rw [show i + 1 = d by omega, hp] at this
      exact this.symm
    have e4 : (((x : Nat) : Int) != ((x : Nat) : Int)) = false := by simp
    refine ⟨S, ?_, by rw [h24, show i + 1 = d by omega], Off.refl⟩
    rw [Nat.add_zero, Q.wstep]
    simp only [Q.var, Q.int, Q.neg, Q.item, Q.tcmp, Q.neI, Q.itV_ff, Q.itV_i, Q.d_fr, Q.d_li, Q.o_fr, Q.o_li, Q.map_some, Int.reduceNeg, r25, r26, r24, e1, e2, e3, e4]
  | succ m ih =>
    intro i n S hi h25 h26 h24
    have r25 := Q.rho S 25 _ h25
    have r26 := Q.rho S 26 _ h26
    have r24 := Q.rho S 24 _ h24
    have e1 := orb_last f x i (by omega)
    have e2 := six_item f (ile i)
    have e3 : f (it f i x) = it f (i + 1) x := (it_succ f i x).symm
    have e4 : (((it f (i + 1) x : Nat) : Int) != ((x : Nat) : Int)) = true := by rw [natne]; exact bne_iff_ne.mpr (hmin _ (by omega) (by omega))
    have hl : (lsI (orb f x (i + 1))).length ≤ 100000 := by rw [lsI_len, orb_len]; omega
    have body : ∃ S1, exB nm fn FT14 sF_law_due tp (n + 20 + m) (.cons (.app 24 ⟨244,20,244,24⟩ ⟨244,20,244,31⟩ (.item (.var 25 ⟨244,32,244,36⟩) (.item (.var 24 ⟨244,37,244,41⟩) (.neg (.int (1) 0 ⟨244,43,244,44⟩) ⟨244,42,244,44⟩) ⟨244,37,244,45⟩) ⟨244,32,244,46⟩) ⟨244,20,244,47⟩ ⟨244,20,244,47⟩) .nil) S = some (.next, S1) ∧ (S1 24 = some (.li (lsI (orb f x (i + 2)))) ∧ Off [24] S S1) := by
      rw [show n + 20 + m = (n + m) + 20 by omega]
      apply Q.out
      · simp only [Q.var, Q.int, Q.neg, Q.item, Q.app, Q.bnil, Q.bcons, Q.itV_ff, Q.itV_i, Q.d_fr, Q.d_li, Q.o_fr, Q.o_li, Q.map_some, Q.at_i, listLine, Bool.and_self, decide_true, if_true, beq_self_eq_true, Int.reduceNeg, h24, r25, r24, e1, e2, e3, hl]
        rfl
      · exact ⟨by rw [Q.put_get, orb_succ f x (i + 1), lsI_snoc], Off.refl.put (by simp)⟩
    obtain ⟨S1, b1, b2, b3⟩ := body
    obtain ⟨S', w1, w2, w3⟩ := ih (i + 1) n S1 (by omega) (by rw [b3 25 (by simp)]; exact h25) (by rw [b3 26 (by simp)]; exact h26) b2
    refine ⟨S', ?_, w2, b3.trans w3⟩
    have ht : evT nm fn FT14 (n + 20 + m) sF_law_due (.cmp .ne (.item (.var 25 ⟨243,22,243,26⟩) (.item (.var 24 ⟨243,27,243,31⟩) (.neg (.int (1) 0 ⟨243,33,243,34⟩) ⟨243,32,243,34⟩) ⟨243,27,243,35⟩) ⟨243,22,243,36⟩) (.var 26 ⟨243,40,243,42⟩) ⟨243,22,243,42⟩) tp (rhoOf S) = some true := by
      rw [show n + 20 + m = (n + m) + 20 by omega]
      simp only [Q.var, Q.int, Q.neg, Q.item, Q.tcmp, Q.neI, Q.itV_ff, Q.itV_i, Q.d_fr, Q.d_li, Q.o_fr, Q.o_li, Q.map_some, Int.reduceNeg, r25, r26, r24, e1, e2, e3, e4]
    rw [show n + 20 + (m + 1) = (n + 20 + m) + 1 by omega, Q.wstep, ht]
    dsimp only
    rw [b1]
    exact w1
end Mine.L2
end
section
set_option maxRecDepth 100000
open PySem PySem.W PyProof.Rows PySem.Calls
set_option autoImplicit false
namespace Mine.L2
open Ri Q
structure RingList (f : Nat → Nat) (rg : List Nat) : Prop where
  ne : rg ≠ []
  nd : rg.Nodup
  le : ∀ k ∈ rg, 1 ≤ k ∧ k ≤ 5
  on : ∃ x, Ring f x ∧ ∀ k, k ∈ rg ↔ On f x k
theorem least {P : Nat → Prop} : ∀ (n : Nat), P n → ∃ m, m ≤ n ∧ P m ∧ ∀ j, j < m → ¬ P j := by
  intro n
  induction n using Nat.strongRecOn with
  | ind n ih =>
    intro h
    by_cases q : ∃ j, j < n ∧ P j
    · obtain ⟨j, hj, hp⟩ := q
      obtain ⟨m, a, b, c⟩ := ih j hj hp
      exact ⟨m, by omega, b, c⟩
    · exact ⟨n, Nat.le_refl _, h, fun j hj hp => q ⟨j, hj, hp⟩⟩
theorem orb_ring {f : Nat → Nat} {x d : Nat} (h0 : f 0 = 0) (hf : ∀ k, f k ≤ 5) (_ : x ≤ 5) (hx0 : x ≠ 0) (hd : 0 < d) (hp : it f d x = x) (hmin : ∀ j, 0 < j → j < d → it f j x ≠ x) : RingList f (orb f x d) := by
  have hr : Ring f x := ⟨hx0, d, hd, hp⟩
  have hmem : ∀ k, k ∈ orb f x d ↔ On f x k := fun k => by
    unfold orb
    rw [List.mem_map]
    constructor
    · rintro ⟨i, _, rfl⟩; exact ⟨i, rfl⟩
    · rintro ⟨i, rfl⟩
      refine ⟨i % d, List.mem_range.mpr (Nat.mod_lt _ hd), ?_⟩
      have := it_add f (d * (i / d)) (i % d) x
      rw [it_mul hp, Nat.div_add_mod] at this
      exact this.symm
  refine ⟨?_, ?_, fun k hk => ?_, x, hr, hmem⟩
  · intro e
    have := (hmem x).mpr ⟨0, rfl⟩
    rw [e] at this; cases this
  · unfold orb
    rw [List.nodup_iff_pairwise_ne, List.pairwise_map]
    refine List.Pairwise.imp_of_mem ?_ (List.pairwise_lt_range)
    intro i j hi hj hij e
    have hj := List.mem_range.mp hj
    refine hmin (d - j + i) (by omega) (by omega) ?_
    rw [Nat.add_comm, it_add, e, ← it_add, show j + (d - j) = d by omega, hp]
  · have rk := hr.on h0 ((hmem k).mp hk)
    exact ⟨Nat.pos_of_ne_zero rk.1, rk.le hf⟩
theorem ring_turn {f : Nat → Nat} {tp : Bool} (h0 : f 0 = 0) (hf : ∀ k, f k ≤ 5) (n k : Nat) (rg : List Nat) (S : Sta) (hk : k ≤ 5) (h25 : S 25 = some (.fr (.lst (sixD f)))) (h24 : S 24 = some (.li (lsI rg))) :
    ∃ S', exB nm fn FT14 sF_law_due tp (n + 40) (.cons (.asg 26 ⟨240,12,240,14⟩ (.item (.var 25 ⟨240,17,240,21⟩) (.item (.var 25 ⟨240,22,240,26⟩) (.item (.var 25 ⟨240,27,240,31⟩) (.item (.var 25 ⟨240,32,240,36⟩) (.item (.var 25 ⟨240,37,240,41⟩) (.var 11 ⟨240,42,240,43⟩) ⟨240,37,240,44⟩) ⟨240,32,240,45⟩) ⟨240,27,240,46⟩) ⟨240,22,240,47⟩) ⟨240,17,240,48⟩) ⟨240,12,240,48⟩) (.cons (.ite (.and (.cmp .ne (.var 26 ⟨241,15,241,17⟩) (.int (0) 0 ⟨241,21,241,22⟩) ⟨241,15,241,22⟩) (.cmp .eq (.var 24 ⟨241,27,241,31⟩) (.list .nil ⟨241,35,241,37⟩) ⟨241,27,241,37⟩) ⟨241,15,241,37⟩) (.cons (.own 24 ⟨242,16,242,20⟩ (.list (.cons (.var 26 ⟨242,24,242,26⟩) .nil) ⟨242,23,242,27⟩) ⟨242,16,242,27⟩) (.cons (.whl (.cmp .ne (.item (.var 25 ⟨243,22,243,26⟩) (.item (.var 24 ⟨243,27,243,31⟩) (.neg (.int (1) 0 ⟨243,33,243,34⟩) ⟨243,32,243,34⟩) ⟨243,27,243,35⟩) ⟨243,22,243,36⟩) (.var 26 ⟨243,40,243,42⟩) ⟨243,22,243,42⟩) (.cons (.app 24 ⟨244,20,244,24⟩ ⟨244,20,244,31⟩ (.item (.var 25 ⟨244,32,244,36⟩) (.item (.var 24 ⟨244,37,244,41⟩) (.neg (.int (1) 0 ⟨244,43,244,44⟩) ⟨244,42,244,44⟩) ⟨244,37,244,45⟩) ⟨244,32,244,46⟩) ⟨244,20,244,47⟩ ⟨244,20,244,47⟩) .nil) ⟨243,16,244,47⟩) .nil)) .nil ⟨241,12,244,47⟩) .nil)) (S.put 11 (.fr (.int (k : Nat)))) = some (.next, S') ∧ ((∃ rg', S' 24 = some (.li (lsI rg')) ∧ (rg ≠ [] → rg' = rg) ∧ (rg = [] → (it f 5 k = 0 ∧ rg' = []) ∨ RingList f rg')) ∧ Off [11, 24, 26] S S') := by
  have r25 := Q.rho S 25 _ h25
  have r24 := Q.rho S 24 _ h24
  have e1 := six_item f hk
  have e2 := six_item f (hf k)
  have e3 := six_item f (hf (f k))
  have e4 := six_item f (hf (f (f k)))
  have e5 := six_item f (hf (f (f (f k))))
  generalize hat : f (f (f (f (f k)))) = at' at e5
  have hat' : it f 5 k = at' := hat
  have s0 : exS nm fn FT14 sF_law_due tp (n + 39) (.asg 26 ⟨240,12,240,14⟩ (.item (.var 25 ⟨240,17,240,21⟩) (.item (.var 25 ⟨240,22,240,26⟩) (.item (.var 25 ⟨240,27,240,31⟩) (.item (.var 25 ⟨240,32,240,36⟩) (.item (.var 25 ⟨240,37,240,41⟩) (.var 11 ⟨240,42,240,43⟩) ⟨240,37,240,44⟩) ⟨240,32,240,45⟩) ⟨240,27,240,46⟩) ⟨240,22,240,47⟩) ⟨240,17,240,48⟩) ⟨240,12,240,48⟩) (S.put 11 (.fr (.int (k : Nat)))) = some (.next, (S.put 11 (.fr (.int (k : Nat)))).put 26 (.fr (.int (at' : Nat)))) := by
    simp only [Q.var, Q.item, Q.asg, Q.itV_ff, Q.rho_put, Q.d_fr, Q.o_fr, Q.map_some, Bool.and_self, if_true, if_false, Q.sw_item, Nat.reduceEqDiff, k_law_due, r25, e1, e2, e3, e4, e5]
  by_cases hz : at' = 0
  · subst hz
    refine ⟨(S.put 11 (.fr (.int (k : Nat)))).put 26 (.fr (.int (0 : Nat))), ?_, ⟨rg, ?_, fun _ => rfl, fun e => .inl ⟨hat', e⟩⟩, (Off.refl.put (by simp)).put (by simp)⟩
    · rw [Q.bcons, s0]
      have e4 : ((0 : Int) != 0) = false := rfl
      simp only [Q.var, Q.int, Q.tand, Q.tcmp, Q.sif, Q.bnil, Q.bcons, Q.neI, Q.rho_put, Q.d_fr, Q.o_fr, if_true, if_false, Nat.reduceEqDiff, Int.cast_ofNat_Int, e4]
    · rw [put_at, if_neg (by omega), put_at, if_neg (by omega)]; exact h24
  · have e4 : (((at' : Nat) : Int) != 0) = true := bne_iff_ne.mpr (by omega)
    cases hrg : rg with
    | cons a r =>
      subst hrg
      refine ⟨(S.put 11 (.fr (.int (k : Nat)))).put 26 (.fr (.int (at' : Nat))), ?_, ⟨a :: r, ?_, fun _ => rfl, fun e => by cases e⟩, (Off.refl.put (by simp)).put (by simp)⟩
      · rw [Q.bcons, s0]
        have e5 : isNil (lsI (a :: r)) = false := rfl
        simp only [Q.var, Q.int, Q.list, Q.nil, Q.tand, Q.tcmp, Q.sif, Q.bnil, Q.bcons, Q.neI, Q.eqE, Q.unt_nil, Q.rho_put, Q.d_fr, Q.d_li, Q.o_fr, Q.o_li, List.map_nil, List.length_nil, Bool.not_true, if_true, if_false, Nat.reduceEqDiff, Nat.reduceLeDiff, r24, e4, e5]
      · rw [put_at, if_neg (by omega), put_at, if_neg (by omega)]; exact h24
    | nil =>
      subst hrg
      have hat5 : at' ≤ 5 := by rw [← hat]; exact hf _
      obtain ⟨d0, hd0, hd5, hp0⟩ := ring_of h0 hf hk (by rw [hat']; exact hz)
      rw [hat'] at hp0
      obtain ⟨d, hdd, ⟨hdpos, hp⟩, hmin⟩ := least (P := fun d => 0 < d ∧ it f d at' = at') d0 ⟨hd0, hp0⟩
      have hmin' : ∀ j, 0 < j → j < d → it f j at' ≠ at' := fun j h1 h2 e => hmin j h2 ⟨h1, e⟩
      have hcond : evT nm fn FT14 (n + 37) sF_law_due (.and (.cmp .ne (.var 26 ⟨241,15,241,17⟩) (.int (0) 0 ⟨241,21,241,22⟩) ⟨241,15,241,22⟩) (.cmp .eq (.var 24 ⟨241,27,241,31⟩) (.list .nil ⟨241,35,241,37⟩) ⟨241,27,241,37⟩) ⟨241,15,241,37⟩) tp (rhoOf ((S.put 11 (.fr (.int (k : Nat)))).put 26 (.fr (.int (at' : Nat))))) = some true := by
        have e5 : isNil (lsI []) = true := rfl
        simp only [Q.var, Q.int, Q.list, Q.nil, Q.tand, Q.tcmp, Q.neI, Q.eqE, Q.unt_nil, Q.rho_put, Q.d_fr, Q.d_li, Q.o_fr, Q.o_li, List.map_nil, List.length_nil, Bool.not_true, if_true, if_false, Nat.reduceEqDiff, Nat.reduceLeDiff, r24, e4, e5]
      generalize hS2 : (S.put 11 (.fr (.int (k : Nat)))).put 26 (.fr (.int (at' : Nat))) = S2 at *
      have o2 : Off [11, 24, 26] S S2 := by rw [← hS2]; exact (Off.refl.put (by simp)).put (by simp)
      have s1 : exS nm fn FT14 sF_law_due tp (n + 36) (.own 24 ⟨242,16,242,20⟩ (.list (.cons (.var 26 ⟨242,24,242,26⟩) .nil) ⟨242,23,242,27⟩) ⟨242,16,242,27⟩) S2 = some (.next, S2.put 24 (.li [.int (at' : Nat)])) := by
        have r26 : rhoT S2 26 = some (.int (at' : Nat), false) := by rw [Q.rhoT_at, ← hS2, Q.put_get]; rfl
        simp only [Q.var, Q.list, Q.nil, Q.cons, Q.own, Q.unt_nil, Q.unt_cons, Q.map_some, Q.so_li, Q.at_i, List.map_cons, List.map_nil, List.length_cons, List.length_nil, List.all_cons, List.all_nil, Bool.not_true, Bool.not_false, Bool.and_self, if_true, Q.sw_list, Nat.reduceLeDiff, Nat.zero_add, k_law_due, r26]
      obtain ⟨S3, w1, w2, w3⟩ := ring_while (tp := tp) hf hat5 (by omega) hp hmin' (d - 1) 0 (n + 14 - (d - 1)) (S2.put 24 (.li [.int (at' : Nat)])) (by omega) (by rw [put_at, if_neg (by omega), o2 25 (by simp)]; exact h25) (by rw [put_at, if_neg (by omega), ← hS2, Q.put_get]) (by rw [Q.put_get]; rfl)
      refine ⟨S3, ?_, ⟨orb f at' d, w2, fun e => absurd rfl e, fun _ => .inr (orb_ring h0 hf hat5 hz hdpos hp hmin')⟩, (o2.put (by simp)).trans (w3.mono (by simp))⟩
      rw [show n + 14 - (d - 1) + 20 + (d - 1) = n + 34 by omega] at w1
      rw [Q.bcons, s0]
      dsimp only
      rw [Q.bcons, Q.sif, hcond]
      dsimp only
      rw [Q.bcons, s1]
      dsimp only
      rw [Q.bcons, Q.swhl, w1]
      simp only [Q.bnil]
end Mine.L2
end
section
set_option maxRecDepth 100000
open PySem PySem.W PyProof.Rows PySem.Calls
set_option autoImplicit false
namespace Mine.L2
open Ri Q
theorem range51 : (rangeD 0 5).map (downD 5 0) = [.int (5 : Nat), .int (4 : Nat), .int (3 : Nat), .int (2 : Nat), .int (1 : Nat)] := rfl
theorem ring_for {f : Nat → Nat} {tp : Bool} (h0 : f 0 = 0) (hf : ∀ k, f k ≤ 5) (n : Nat) (S : Sta) (h25 : S 25 = some (.fr (.lst (sixD f)))) (h24 : S 24 = some (.li (lsI []))) :
    ∃ S', exS nm fn FT14 sF_law_due tp (n + 41) (.for (.one 11 ⟨239,12,239,13⟩) (.bi .range ⟨239,17,239,22⟩ (.cons (.int (5) 0 ⟨239,23,239,24⟩) (.cons (.int (0) 0 ⟨239,26,239,27⟩) (.cons (.neg (.int (1) 0 ⟨239,30,239,31⟩) ⟨239,29,239,31⟩) .nil))) ⟨239,17,239,32⟩) (.cons (.asg 26 ⟨240,12,240,14⟩ (.item (.var 25 ⟨240,17,240,21⟩) (.item (.var 25 ⟨240,22,240,26⟩) (.item (.var 25 ⟨240,27,240,31⟩) (.item (.var 25 ⟨240,32,240,36⟩) (.item (.var 25 ⟨240,37,240,41⟩) (.var 11 ⟨240,42,240,43⟩) ⟨240,37,240,44⟩) ⟨240,32,240,45⟩) ⟨240,27,240,46⟩) ⟨240,22,240,47⟩) ⟨240,17,240,48⟩) ⟨240,12,240,48⟩) (.cons (.ite (.and (.cmp .ne (.var 26 ⟨241,15,241,17⟩) (.int (0) 0 ⟨241,21,241,22⟩) ⟨241,15,241,22⟩) (.cmp .eq (.var 24 ⟨241,27,241,31⟩) (.list .nil ⟨241,35,241,37⟩) ⟨241,27,241,37⟩) ⟨241,15,241,37⟩) (.cons (.own 24 ⟨242,16,242,20⟩ (.list (.cons (.var 26 ⟨242,24,242,26⟩) .nil) ⟨242,23,242,27⟩) ⟨242,16,242,27⟩) (.cons (.whl (.cmp .ne (.item (.var 25 ⟨243,22,243,26⟩) (.item (.var 24 ⟨243,27,243,31⟩) (.neg (.int (1) 0 ⟨243,33,243,34⟩) ⟨243,32,243,34⟩) ⟨243,27,243,35⟩) ⟨243,22,243,36⟩) (.var 26 ⟨243,40,243,42⟩) ⟨243,22,243,42⟩) (.cons (.app 24 ⟨244,20,244,24⟩ ⟨244,20,244,31⟩ (.item (.var 25 ⟨244,32,244,36⟩) (.item (.var 24 ⟨244,37,244,41⟩) (.neg (.int (1) 0 ⟨244,43,244,44⟩) ⟨244,42,244,44⟩) ⟨244,37,244,45⟩) ⟨244,32,244,46⟩) ⟨244,20,244,47⟩ ⟨244,20,244,47⟩) .nil) ⟨243,16,244,47⟩) .nil)) .nil ⟨241,12,244,47⟩) .nil)) ⟨239,8,244,47⟩) S = some (.next, S') ∧ ((∃ rg, S' 24 = some (.li (lsI rg)) ∧ ((rg = [] ∧ ∀ k, 1 ≤ k → k ≤ 5 → it f 5 k = 0) ∨ RingList f rg)) ∧ Off [11, 24, 26] S S') := by
  have hsrc : evSrc nm fn FT14 (n + 40) sF_law_due (.bi .range ⟨239,17,239,22⟩ (.cons (.int (5) 0 ⟨239,23,239,24⟩) (.cons (.int (0) 0 ⟨239,26,239,27⟩) (.cons (.neg (.int (1) 0 ⟨239,30,239,31⟩) ⟨239,29,239,31⟩) .nil))) ⟨239,17,239,32⟩) tp (rhoOf S) = some ((rangeD 0 5).map (downD 5 0), false, false) := by
    simp only [Q.int, Q.neg, Q.nil, Q.cons, Q.srange, Q.rg3, Bool.and_self, decide_true, if_true, Q.na0, Q.na5, Nat.reduceLT, and_self, Int.reduceLE, Int.reduceNeg, Nat.zero_lt_succ, k_law_due]
  rw [range51] at hsrc
  rw [Q.sfor, hsrc]
  simp only [Q.tw1, Q.tv1, k_law_due, List.all_cons, List.all_nil, Bool.and_true, beq_self_eq_true, if_true]
  obtain ⟨S', e, ⟨rg, q24, q⟩, off⟩ := Q.loop_inv (f := exB nm fn FT14 sF_law_due tp (n + 40) (.cons (.asg 26 ⟨240,12,240,14⟩ (.item (.var 25 ⟨240,17,240,21⟩) (.item (.var 25 ⟨240,22,240,26⟩) (.item (.var 25 ⟨240,27,240,31⟩) (.item (.var 25 ⟨240,32,240,36⟩) (.item (.var 25 ⟨240,37,240,41⟩) (.var 11 ⟨240,42,240,43⟩) ⟨240,37,240,44⟩) ⟨240,32,240,45⟩) ⟨240,27,240,46⟩) ⟨240,22,240,47⟩) ⟨240,17,240,48⟩) ⟨240,12,240,48⟩) (.cons (.ite (.and (.cmp .ne (.var 26 ⟨241,15,241,17⟩) (.int (0) 0 ⟨241,21,241,22⟩) ⟨241,15,241,22⟩) (.cmp .eq (.var 24 ⟨241,27,241,31⟩) (.list .nil ⟨241,35,241,37⟩) ⟨241,27,241,37⟩) ⟨241,15,241,37⟩) (.cons (.own 24 ⟨242,16,242,20⟩ (.list (.cons (.var 26 ⟨242,24,242,26⟩) .nil) ⟨242,23,242,27⟩) ⟨242,16,242,27⟩) (.cons (.whl (.cmp .ne (.item (.var 25 ⟨243,22,243,26⟩) (.item (.var 24 ⟨243,27,243,31⟩) (.neg (.int (1) 0 ⟨243,33,243,34⟩) ⟨243,32,243,34⟩) ⟨243,27,243,35⟩) ⟨243,22,243,36⟩) (.var 26 ⟨243,40,243,42⟩) ⟨243,22,243,42⟩) (.cons (.app 24 ⟨244,20,244,24⟩ ⟨244,20,244,31⟩ (.item (.var 25 ⟨244,32,244,36⟩) (.item (.var 24 ⟨244,37,244,41⟩) (.neg (.int (1) 0 ⟨244,43,244,44⟩) ⟨244,42,244,44⟩) ⟨244,37,244,45⟩) ⟨244,32,244,46⟩) ⟨244,20,244,47⟩ ⟨244,20,244,47⟩) .nil) ⟨243,16,244,47⟩) .nil)) .nil ⟨241,12,244,47⟩) .nil))) (tg := (.one 11 ⟨239,12,239,13⟩))
    (I := fun m S' => (∃ rg, S' 24 = some (.li (lsI rg)) ∧ ((rg = [] ∧ ∀ k, 6 - m ≤ k → k ≤ 5 → it f 5 k = 0) ∨ RingList f rg)) ∧ Off [11, 24, 26] S S') [.int (5 : Nat), .int (4 : Nat), .int (3 : Nat), .int (2 : Nat), .int (1 : Nat)] 0 S ⟨⟨[], h24, .inl ⟨rfl, fun k h1 h2 => by omega⟩⟩, Off.refl⟩ (fun j d S1 hd hI => by
      obtain ⟨⟨rg, q24, q⟩, off⟩ := hI
      have hj : j < 5 := by have := (List.getElem?_eq_some_iff.mp hd).1; exact this
      have hd' : d = .int ((5 - j : Nat) : Int) := by
        have : j = 0 ∨ j = 1 ∨ j = 2 ∨ j = 3 ∨ j = 4 := by omega
        rcases this with rfl | rfl | rfl | rfl | rfl <;> cases hd <;> rfl
      subst hd'
      obtain ⟨S2, e, ⟨rg', a, b, c⟩, off2⟩ := ring_turn (tp := tp) h0 hf n (5 - j) rg S1 (by omega) (by rw [off 25 (by simp)]; exact h25) q24
      refine ⟨_, S2, rfl, e, ⟨rg', a, ?_⟩, off.trans off2⟩
      rcases q with ⟨rfl, q⟩ | q
      · rcases c rfl with ⟨c1, c2⟩ | c
        · refine .inl ⟨c2, fun k h1 h2 => ?_⟩
          by_cases hk : k = 5 - j
          · rw [hk]; exact c1
          · exact q k (by omega) h2
        · exact .inr c
      · rw [b q.ne]; exact .inr q)
  exact ⟨S', e, ⟨rg, q24, q.imp (fun ⟨a, b⟩ => ⟨a, fun k h1 h2 => b k (by simpa using h1) h2⟩) id⟩, off⟩
theorem pop_for {tp : Bool} (n : Nat) : ∀ (rg : List Nat) (l : Nat → Nat) (S : Sta), rg.Nodup → (∀ k ∈ rg, k ≤ 5) → S 23 = some (.li (sixD l)) →
    ∃ S', loopF (exB nm fn FT14 sF_law_due tp (n + 12) (.cons (.augI 23 ⟨246,12,246,16⟩ (.var 11 ⟨246,17,246,18⟩) ⟨246,12,246,19⟩ .add (.int (1) 0 ⟨246,23,246,24⟩) ⟨246,12,246,24⟩) .nil)) (.one 11 ⟨245,12,245,13⟩) (lsI rg) S = some (.next, S') ∧ ((∃ l', S' 23 = some (.li (sixD l')) ∧ ∀ k, l' k = l k + if k ∈ rg then 1 else 0) ∧ Off [11, 23] S S')
  | [], l, S, _, _, h => ⟨S, rfl, ⟨l, h, fun k => by simp⟩, Off.refl⟩
  | r :: rg, l, S, hn, hle, h => by
    rw [List.nodup_cons] at hn
    have hr := hle r List.mem_cons_self
    have e1 := six_item l hr
    have e2 : ((l r : Nat) : Int) + 1 = ((l r + 1 : Nat) : Int) := rfl
    have e3 := six_set l (v := l r + 1) hr
    have c1 : (0 : Int) ≤ ((r : Nat) : Int) := by omega
    have c2 : ((r : Nat) : Int) < (((sixD l).length : Nat) : Int) := by rw [six_len]; omega
    have c3 : (sixD l).length ≤ 100000 := by rw [six_len]; omega
    have body : ∃ S1, exB nm fn FT14 sF_law_due tp (n + 12) (.cons (.augI 23 ⟨246,12,246,16⟩ (.var 11 ⟨246,17,246,18⟩) ⟨246,12,246,19⟩ .add (.int (1) 0 ⟨246,23,246,24⟩) ⟨246,12,246,24⟩) .nil) (S.put 11 (.fr (.int (r : Nat)))) = some (.next, S1) ∧ (S1 23 = some (.li (sixD fun i => if i = r then l r + 1 else l i)) ∧ Off [11, 23] S S1) := by
      apply Q.out
      · simp only [Q.var, Q.int, Q.augI, Q.bnil, Q.bcons, Q.addI, Q.rho_put, Q.put_at, Q.d_fr, Q.d_li, Q.o_fr, Q.o_li, Q.map_some, Q.ss_li, Q.at_i, Q.mo_add, listLine, Bool.and_self, if_true, if_false, Nat.reduceEqDiff, and_self, h, e1, e2, e3, c1, c2, c3, Int.toNat_natCast]
        rfl
      · exact ⟨Q.put_get, (Off.refl.put (by simp)).put (by simp)⟩
    obtain ⟨S1, b1, b2, b3⟩ := body
    obtain ⟨S', w1, ⟨l', w2, w3⟩, w4⟩ := pop_for n rg _ S1 hn.2 (fun k hk => hle k (List.mem_cons_of_mem _ hk)) b2
    refine ⟨S', ?_, ⟨l', w2, fun k => ?_⟩, b3.trans w4⟩
    · show loopF _ _ (.int (r : Nat) :: lsI rg) S = _
      rw [Q.lp_cons]
      dsimp only [Q.bs1]
      rw [b1]
      exact w1
    · rw [w3 k]
      by_cases hk : k = r
      · subst hk; rw [if_pos rfl, if_neg hn.1, if_pos List.mem_cons_self]
      · rw [if_neg hk]
        by_cases hm : k ∈ rg
        · rw [if_pos hm, if_pos (List.mem_cons_of_mem _ hm)]
        · rw [if_neg hm, if_neg (by simp [hk, hm])]
end Mine.L2
end
section
set_option maxRecDepth 100000
open PySem PySem.W PyProof.Rows PySem.Calls
set_option autoImplicit false
namespace Mine.L2
open Ri Q
theorem pop_of {ps : List (List Nat)} {l l' : Nat → Nat} {rg : List Nat} (R : RingList (top (arF ps) l) rg) (h : ∀ k, l' k = l k + if k ∈ rg then 1 else 0) : Pop (arF ps) l l' := by
  obtain ⟨x, rx, on⟩ := R.on
  exact ⟨x, rx, fun k q => by rw [h, if_pos ((on k).mpr q)], fun k q => by rw [h, if_neg fun z => q ((on k).mp z)]; rfl⟩
theorem lt4_of {ps : List (List Nat)} (P : Piles ps) {l : Nat → Nat} {rg : List Nat} (R : RingList (top (arF ps) l) rg) {k : Nat} (h : k ∈ rg) : l k < 4 := by
  obtain ⟨x, rx, on⟩ := R.on
  have rk := rx.on (top0 _ l) ((on k).mp h)
  have r2 := rk.on (top0 _ l) ⟨1, rfl⟩
  have r2 : top (arF ps) l k ≠ 0 := r2.1
  rcases Nat.lt_or_ge (l k) 4 with q | q
  · exact q
  · exfalso; apply r2
    unfold top; rw [if_neg rk.1]; exact P.far k (l k) q
theorem short5 {rg : List Nat} (hn : rg.Nodup) (h : ∀ k ∈ rg, 1 ≤ k ∧ k ≤ 5) : rg.length ≤ 5 := by
  rcases Nat.lt_or_ge 5 rg.length with q | q
  · exfalso
    obtain ⟨i, j, hij, hj, e⟩ := php 5 (fun i => rg.getD i 1 - 1) fun i hi => by
      have hm : rg.getD i 1 ∈ rg := by rw [List.getD_eq_getElem?_getD, List.getElem?_eq_getElem (by omega)]; exact List.getElem_mem _
      have := h _ hm
      show rg.getD i 1 - 1 < 5
      omega
    have hi1 : rg.getD i 1 ∈ rg := by rw [List.getD_eq_getElem?_getD, List.getElem?_eq_getElem (by omega)]; exact List.getElem_mem _
    have hj1 : rg.getD j 1 ∈ rg := by rw [List.getD_eq_getElem?_getD, List.getElem?_eq_getElem (by omega)]; exact List.getElem_mem _
    have e : rg.getD i 1 - 1 = rg.getD j 1 - 1 := e
    have e : rg.getD i 1 = rg.getD j 1 := by have := h _ hi1; have := h _ hj1; omega
    rw [List.getD_eq_getElem?_getD, List.getD_eq_getElem?_getD, List.getElem?_eq_getElem (show i < rg.length by omega), List.getElem?_eq_getElem (show j < rg.length by omega)] at e
    have e : rg[i]? = rg[j]? := by rw [List.getElem?_eq_getElem (show i < rg.length by omega), List.getElem?_eq_getElem (show j < rg.length by omega)]; exact congrArg some e
    have := (List.getElem?_inj (by omega) hn).mp e
    omega
  · exact q
noncomputable def mu (l : Nat → Nat) : Nat := l 1 + l 2 + l 3 + l 4 + l 5
theorem mu_le {l : Nat → Nat} (h : ∀ k, l k ≤ 4) : mu l ≤ 20 := by
  have := h 1; have := h 2; have := h 3; have := h 4; have := h 5
  unfold mu; omega
theorem mu_lt {f l l' : Nat → Nat} {rg : List Nat} (R : RingList f rg) (h : ∀ k, l' k = l k + if k ∈ rg then 1 else 0) : mu l < mu l' := by
  have ge : ∀ k, l k ≤ l' k := fun k => by rw [h]; omega
  obtain ⟨k, r, e⟩ := List.exists_cons_of_ne_nil R.ne
  have hk : k ∈ rg := by rw [e]; exact List.mem_cons_self
  have hk5 := R.le k hk
  have hl : l k < l' k := by rw [h, if_pos hk]; omega
  have := ge 1; have := ge 2; have := ge 3; have := ge 4; have := ge 5
  unfold mu
  have : k = 1 ∨ k = 2 ∨ k = 3 ∨ k = 4 ∨ k = 5 := by omega
  rcases this with rfl | rfl | rfl | rfl | rfl <;> omega
theorem round {ps : List (List Nat)} (P : Piles ps) {tp : Bool} (n : Nat) (l : Nat → Nat) (S : Sta) (hl : ∀ k, l k ≤ 4) (h15 : S 15 = some (.fr (arrD ps))) (h23 : S 23 = some (.li (sixD l))) :
    ∃ S', exB nm fn FT14 sF_law_due tp (n + 60) (.cons (.asg 25 ⟨237,8,237,12⟩ (.bin .add (.list (.cons (.int (0) 0 ⟨237,16,237,17⟩) .nil) ⟨237,15,237,18⟩) (.lcomp (.item (.bin .add (.item (.var 15 ⟨237,23,237,29⟩) (.var 11 ⟨237,30,237,31⟩) ⟨237,23,237,32⟩) (.list (.cons (.int (0) 0 ⟨237,36,237,37⟩) .nil) ⟨237,35,237,38⟩) ⟨237,23,237,38⟩) (.item (.var 23 ⟨237,40,237,44⟩) (.var 11 ⟨237,45,237,46⟩) ⟨237,40,237,47⟩) ⟨237,22,237,48⟩) (.cons (.one 11 ⟨237,53,237,54⟩) (.bi .range ⟨237,58,237,63⟩ (.cons (.int (1) 0 ⟨237,64,237,65⟩) (.cons (.int (6) 0 ⟨237,67,237,68⟩) .nil)) ⟨237,58,237,69⟩) .nil .nil) sc2 ⟨237,21,237,70⟩) ⟨237,15,237,70⟩) ⟨237,8,237,70⟩) (.cons (.own 24 ⟨238,8,238,12⟩ (.list .nil ⟨238,15,238,17⟩) ⟨238,8,238,17⟩) (.cons (.for (.one 11 ⟨239,12,239,13⟩) (.bi .range ⟨239,17,239,22⟩ (.cons (.int (5) 0 ⟨239,23,239,24⟩) (.cons (.int (0) 0 ⟨239,26,239,27⟩) (.cons (.neg (.int (1) 0 ⟨239,30,239,31⟩) ⟨239,29,239,31⟩) .nil))) ⟨239,17,239,32⟩) (.cons (.asg 26 ⟨240,12,240,14⟩ (.item (.var 25 ⟨240,17,240,21⟩) (.item (.var 25 ⟨240,22,240,26⟩) (.item (.var 25 ⟨240,27,240,31⟩) (.item (.var 25 ⟨240,32,240,36⟩) (.item (.var 25 ⟨240,37,240,41⟩) (.var 11 ⟨240,42,240,43⟩) ⟨240,37,240,44⟩) ⟨240,32,240,45⟩) ⟨240,27,240,46⟩) ⟨240,22,240,47⟩) ⟨240,17,240,48⟩) ⟨240,12,240,48⟩) (.cons (.ite (.and (.cmp .ne (.var 26 ⟨241,15,241,17⟩) (.int (0) 0 ⟨241,21,241,22⟩) ⟨241,15,241,22⟩) (.cmp .eq (.var 24 ⟨241,27,241,31⟩) (.list .nil ⟨241,35,241,37⟩) ⟨241,27,241,37⟩) ⟨241,15,241,37⟩) (.cons (.own 24 ⟨242,16,242,20⟩ (.list (.cons (.var 26 ⟨242,24,242,26⟩) .nil) ⟨242,23,242,27⟩) ⟨242,16,242,27⟩) (.cons (.whl (.cmp .ne (.item (.var 25 ⟨243,22,243,26⟩) (.item (.var 24 ⟨243,27,243,31⟩) (.neg (.int (1) 0 ⟨243,33,243,34⟩) ⟨243,32,243,34⟩) ⟨243,27,243,35⟩) ⟨243,22,243,36⟩) (.var 26 ⟨243,40,243,42⟩) ⟨243,22,243,42⟩) (.cons (.app 24 ⟨244,20,244,24⟩ ⟨244,20,244,31⟩ (.item (.var 25 ⟨244,32,244,36⟩) (.item (.var 24 ⟨244,37,244,41⟩) (.neg (.int (1) 0 ⟨244,43,244,44⟩) ⟨244,42,244,44⟩) ⟨244,37,244,45⟩) ⟨244,32,244,46⟩) ⟨244,20,244,47⟩ ⟨244,20,244,47⟩) .nil) ⟨243,16,244,47⟩) .nil)) .nil ⟨241,12,244,47⟩) .nil)) ⟨239,8,244,47⟩) (.cons (.frz 24) (.cons (.for (.one 11 ⟨245,12,245,13⟩) (.var 24 ⟨245,17,245,21⟩) (.cons (.augI 23 ⟨246,12,246,16⟩ (.var 11 ⟨246,17,246,18⟩) ⟨246,12,246,19⟩ .add (.int (1) 0 ⟨246,23,246,24⟩) ⟨246,12,246,24⟩) .nil) ⟨245,8,246,24⟩) .nil))))) S = some (.next, S') ∧ ((∃ rg l', S' 24 = some (.fr (.lst (lsI rg))) ∧ S' 25 = some (.fr (.lst (sixD (top (arF ps) l)))) ∧ S' 23 = some (.li (sixD l')) ∧ (∀ k, l' k = l k + if k ∈ rg then 1 else 0) ∧ ((rg = [] ∧ ∀ k, 1 ≤ k → k ≤ 5 → it (top (arF ps) l) 5 k = 0) ∨ RingList (top (arF ps) l) rg)) ∧ Off [11, 23, 24, 25, 26] S S') := by
  have s0 := due_tops P (n + 35) S tp l hl h15 h23
  generalize hS1 : S.put 25 (.fr (.lst (sixD (top (arF ps) l)))) = S1 at s0
  have o1 : Off [11, 23, 24, 25, 26] S S1 := by rw [← hS1]; exact Off.refl.put (by simp)
  have s1 : exS nm fn FT14 sF_law_due tp (n + 58) (.own 24 ⟨238,8,238,12⟩ (.list .nil ⟨238,15,238,17⟩) ⟨238,8,238,17⟩) S1 = some (.next, S1.put 24 (.li [])) := by
    simp only [Q.list, Q.nil, Q.own, Q.unt_nil, Q.map_some, Q.so_li, List.map_nil, List.length_nil, List.all_nil, Bool.not_true, Bool.and_self, if_true, Q.sw_list, Nat.reduceLeDiff, k_law_due]
  have h25 : (S1.put 24 (.li [])) 25 = some (.fr (.lst (sixD (top (arF ps) l)))) := by rw [put_at, if_neg (by omega), ← hS1, Q.put_get]
  obtain ⟨S2, e2, ⟨rg, q24, q⟩, o2⟩ := ring_for (tp := tp) (top0 (arF ps) l) (P.top_le l) (n + 16) (S1.put 24 (.li [])) h25 Q.put_get
  have o12 : Off [11, 23, 24, 25, 26] S S2 := (o1.put (by simp)).trans (o2.mono (by simp))
  have s3 : exS nm fn FT14 sF_law_due tp (n + 56) (.frz 24) S2 = some (.next, S2.put 24 (.fr (.lst (lsI rg)))) := by
    rw [Q.sfrz, q24]; rfl
  have hle : ∀ k ∈ rg, k ≤ 5 := by
    rcases q with ⟨rfl, _⟩ | R
    · intro k hk; cases hk
    · exact fun k hk => (R.le k hk).2
  have hnd : rg.Nodup := by
    rcases q with ⟨rfl, _⟩ | R
    · exact .nil
    · exact R.nd
  have hlen : rg.length ≤ 100000 := by
    rcases q with ⟨rfl, _⟩ | R
    · simp
    · have := short5 hnd R.le
      omega
  have h23' : (S2.put 24 (.fr (.lst (lsI rg)))) 23 = some (.li (sixD l)) := by
    rw [put_at, if_neg (by omega), o2 23 (by simp), put_at, if_neg (by omega), ← hS1, put_at, if_neg (by omega)]; exact h23
  obtain ⟨S4, e4, ⟨l', w2, w3⟩, o4⟩ := pop_for (tp := tp) (n + 42) rg l (S2.put 24 (.fr (.lst (lsI rg)))) hnd hle h23'
  have s4 : exS nm fn FT14 sF_law_due tp (n + 55) (.for (.one 11 ⟨245,12,245,13⟩) (.var 24 ⟨245,17,245,21⟩) (.cons (.augI 23 ⟨246,12,246,16⟩ (.var 11 ⟨246,17,246,18⟩) ⟨246,12,246,19⟩ .add (.int (1) 0 ⟨246,23,246,24⟩) ⟨246,12,246,24⟩) .nil) ⟨245,8,246,24⟩) (S2.put 24 (.fr (.lst (lsI rg)))) = some (.next, S4) := by
    have hsrc : evSrc nm fn FT14 (n + 54) sF_law_due (.var 24 ⟨245,17,245,21⟩) tp (rhoOf (S2.put 24 (.fr (.lst (lsI rg))))) = some (lsI rg, false, false) := by
      have hlen' : (lsI rg).length ≤ 100000 := by rw [lsI_len]; exact hlen
      simp only [Q.var, Q.sr_l, Q.svar, Q.rho_put, Q.d_fr, Q.o_fr, listLine, if_true, hlen']
    rw [Q.sfor, hsrc]
    simp only [Q.tw1, Q.tv1, k_law_due, List.all_cons, List.all_nil, Bool.and_true, beq_self_eq_true, if_true]
    exact e4
  refine ⟨S4, ?_, ⟨rg, l', ?_, ?_, w2, w3, q⟩, (o12.put (by simp)).trans (o4.mono (by simp))⟩
  · rw [Q.bcons, s0]
    dsimp only
    rw [Q.bcons, s1]
    dsimp only
    rw [Q.bcons, e2]
    dsimp only
    rw [Q.bcons, s3]
    dsimp only
    rw [Q.bcons, s4]
    rfl
  · rw [o4 24 (by simp), Q.put_get]
  · rw [o4 25 (by simp), put_at, if_neg (by omega), o2 25 (by simp)]; exact h25
end Mine.L2
end
section
set_option maxRecDepth 100000
open PySem PySem.W PyProof.Rows PySem.Calls
set_option autoImplicit false
namespace Mine.L2
open Ri Q
theorem due_while {ps : List (List Nat)} (P : Piles ps) {tp : Bool} : ∀ (m n : Nat) (l : Nat → Nat) (S : Sta) (ds : List D) (t : Bool), 20 ≤ mu l + m → (∀ k, l k ≤ 4) → S 15 = some (.fr (arrD ps)) → S 23 = some (.li (sixD l)) → rhoOf S 24 = some (.lst ds, t) → isNil ds = false →
    ∃ S', exW nm fn FT14 sF_law_due tp (n + 70 + m) (.cmp .ne (.var 24 ⟨236,10,236,14⟩) (.list .nil ⟨236,18,236,20⟩) ⟨236,10,236,20⟩) (.cons (.asg 25 ⟨237,8,237,12⟩ (.bin .add (.list (.cons (.int (0) 0 ⟨237,16,237,17⟩) .nil) ⟨237,15,237,18⟩) (.lcomp (.item (.bin .add (.item (.var 15 ⟨237,23,237,29⟩) (.var 11 ⟨237,30,237,31⟩) ⟨237,23,237,32⟩) (.list (.cons (.int (0) 0 ⟨237,36,237,37⟩) .nil) ⟨237,35,237,38⟩) ⟨237,23,237,38⟩) (.item (.var 23 ⟨237,40,237,44⟩) (.var 11 ⟨237,45,237,46⟩) ⟨237,40,237,47⟩) ⟨237,22,237,48⟩) (.cons (.one 11 ⟨237,53,237,54⟩) (.bi .range ⟨237,58,237,63⟩ (.cons (.int (1) 0 ⟨237,64,237,65⟩) (.cons (.int (6) 0 ⟨237,67,237,68⟩) .nil)) ⟨237,58,237,69⟩) .nil .nil) sc2 ⟨237,21,237,70⟩) ⟨237,15,237,70⟩) ⟨237,8,237,70⟩) (.cons (.own 24 ⟨238,8,238,12⟩ (.list .nil ⟨238,15,238,17⟩) ⟨238,8,238,17⟩) (.cons (.for (.one 11 ⟨239,12,239,13⟩) (.bi .range ⟨239,17,239,22⟩ (.cons (.int (5) 0 ⟨239,23,239,24⟩) (.cons (.int (0) 0 ⟨239,26,239,27⟩) (.cons (.neg (.int (1) 0 ⟨239,30,239,31⟩) ⟨239,29,239,31⟩) .nil))) ⟨239,17,239,32⟩) (.cons (.asg 26 ⟨240,12,240,14⟩ (.item (.var 25 ⟨240,17,240,21⟩) (.item (.var 25 ⟨240,22,240,26⟩) (.item (.var 25 ⟨240,27,240,31⟩) (.item (.var 25 ⟨240,32,240,36⟩) (.item (.var 25 ⟨240,37,240,41⟩) (.var 11 ⟨240,42,240,43⟩) ⟨240,37,240,44⟩) ⟨240,32,240,45⟩) ⟨240,27,240,46⟩) ⟨240,22,240,47⟩) ⟨240,17,240,48⟩) ⟨240,12,240,48⟩) (.cons (.ite (.and (.cmp .ne (.var 26 ⟨241,15,241,17⟩) (.int (0) 0 ⟨241,21,241,22⟩) ⟨241,15,241,22⟩) (.cmp .eq (.var 24 ⟨241,27,241,31⟩) (.list .nil ⟨241,35,241,37⟩) ⟨241,27,241,37⟩) ⟨241,15,241,37⟩) (.cons (.own 24 ⟨242,16,242,20⟩ (.list (.cons (.var 26 ⟨242,24,242,26⟩) .nil) ⟨242,23,242,27⟩) ⟨242,16,242,27⟩) (.cons (.whl (.cmp .ne (.item (.var 25 ⟨243,22,243,26⟩) (.item (.var 24 ⟨243,27,243,31⟩) (.neg (.int (1) 0 ⟨243,33,243,34⟩) ⟨243,32,243,34⟩) ⟨243,27,243,35⟩) ⟨243,22,243,36⟩) (.var 26 ⟨243,40,243,42⟩) ⟨243,22,243,42⟩) (.cons (.app 24 ⟨244,20,244,24⟩ ⟨244,20,244,31⟩ (.item (.var 25 ⟨244,32,244,36⟩) (.item (.var 24 ⟨244,37,244,41⟩) (.neg (.int (1) 0 ⟨244,43,244,44⟩) ⟨244,42,244,44⟩) ⟨244,37,244,45⟩) ⟨244,32,244,46⟩) ⟨244,20,244,47⟩ ⟨244,20,244,47⟩) .nil) ⟨243,16,244,47⟩) .nil)) .nil ⟨241,12,244,47⟩) .nil)) ⟨239,8,244,47⟩) (.cons (.frz 24) (.cons (.for (.one 11 ⟨245,12,245,13⟩) (.var 24 ⟨245,17,245,21⟩) (.cons (.augI 23 ⟨246,12,246,16⟩ (.var 11 ⟨246,17,246,18⟩) ⟨246,12,246,19⟩ .add (.int (1) 0 ⟨246,23,246,24⟩) ⟨246,12,246,24⟩) .nil) ⟨245,8,246,24⟩) .nil))))) S = some (.next, S') ∧ ((∃ L, S' 23 = some (.li (sixD L)) ∧ S' 25 = some (.fr (.lst (sixD (top (arF ps) L)))) ∧ Pops (arF ps) l L ∧ (∀ k, 1 ≤ k → k ≤ 5 → it (top (arF ps) L) 5 k = 0) ∧ ∀ k, L k ≤ 4) ∧ Off [11, 23, 24, 25, 26] S S') := by
  intro m
  induction m with
  | zero =>
    intro n l S ds t hm hl h15 h23 h24 hds
    have ht : evT nm fn FT14 (n + 69) sF_law_due (.cmp .ne (.var 24 ⟨236,10,236,14⟩) (.list .nil ⟨236,18,236,20⟩) ⟨236,10,236,20⟩) tp (rhoOf S) = some true := by
      simp only [Q.var, Q.list, Q.nil, Q.tcmp, Q.neE, Q.unt_nil, List.map_nil, List.length_nil, Bool.not_true, Bool.not_false, if_true, Nat.reduceLeDiff, h24, hds]
    obtain ⟨S1, b1, ⟨rg, l', w1, w2, w3, w4, w5⟩, o1⟩ := round P (tp := tp) (n + 9) l S hl h15 h23
    rcases w5 with ⟨rfl, w5⟩ | R
    · have r24 := Q.rho S1 24 _ w1
      have hf : evT nm fn FT14 (n + 68) sF_law_due (.cmp .ne (.var 24 ⟨236,10,236,14⟩) (.list .nil ⟨236,18,236,20⟩) ⟨236,10,236,20⟩) tp (rhoOf S1) = some false := by
        have : isNil (lsI []) = true := rfl
        simp only [Q.var, Q.list, Q.nil, Q.tcmp, Q.neE, Q.unt_nil, Q.d_fr, Q.o_fr, List.map_nil, List.length_nil, Bool.not_true, if_true, Nat.reduceLeDiff, r24, this]
      have hll : l' = l := by funext k; rw [w4 k, if_neg (by simp)]; rfl
      subst hll
      refine ⟨S1, ?_, ⟨l', w3, w2, .refl _, w5, hl⟩, o1⟩
      rw [show n + 70 + 0 = (n + 69) + 1 by omega, Q.wstep, ht]
      dsimp only
      rw [b1]
      dsimp only
      rw [Q.wstep, hf]
    · exfalso
      have h1 := mu_lt R w4
      have hl' : ∀ k, l' k ≤ 4 := fun k => by
        rw [w4 k]
        split
        · rename_i q; have := lt4_of P R q; omega
        · have := hl k; omega
      have := mu_le hl'
      omega
  | succ m ih =>
    intro n l S ds t hm hl h15 h23 h24 hds
    have ht : evT nm fn FT14 (n + 70 + m) sF_law_due (.cmp .ne (.var 24 ⟨236,10,236,14⟩) (.list .nil ⟨236,18,236,20⟩) ⟨236,10,236,20⟩) tp (rhoOf S) = some true := by
      rw [show n + 70 + m = (n + m) + 70 by omega]
      simp only [Q.var, Q.list, Q.nil, Q.tcmp, Q.neE, Q.unt_nil, List.map_nil, List.length_nil, Bool.not_true, Bool.not_false, if_true, Nat.reduceLeDiff, h24, hds]
    obtain ⟨S1, b1, ⟨rg, l', w1, w2, w3, w4, w5⟩, o1⟩ := round P (tp := tp) (n + 10 + m) l S hl h15 h23
    rw [show n + 10 + m + 60 = n + 70 + m by omega] at b1
    rcases w5 with ⟨rfl, w5⟩ | R
    · have r24 := Q.rho S1 24 _ w1
      have hf : evT nm fn FT14 (n + 69 + m) sF_law_due (.cmp .ne (.var 24 ⟨236,10,236,14⟩) (.list .nil ⟨236,18,236,20⟩) ⟨236,10,236,20⟩) tp (rhoOf S1) = some false := by
        rw [show n + 69 + m = (n + m) + 69 by omega]
        have : isNil (lsI []) = true := rfl
        simp only [Q.var, Q.list, Q.nil, Q.tcmp, Q.neE, Q.unt_nil, Q.d_fr, Q.o_fr, List.map_nil, List.length_nil, Bool.not_true, if_true, Nat.reduceLeDiff, r24, this]
      have hll : l' = l := by funext k; rw [w4 k, if_neg (by simp)]; rfl
      subst hll
      refine ⟨S1, ?_, ⟨l', w3, w2, .refl _, w5, hl⟩, o1⟩
      rw [show n + 70 + (m + 1) = (n + 70 + m) + 1 by omega, Q.wstep, ht]
      dsimp only
      rw [b1]
      dsimp only
      rw [show n + 70 + m = (n + 69 + m) + 1 by omega, Q.wstep, hf]
    · have h1 := mu_lt R w4
      have hl' : ∀ k, l' k ≤ 4 := fun k => by
        rw [w4 k]
        split
        · rename_i q; have := lt4_of P R q; omega
        · have := hl k; omega
      have hnil : isNil (lsI rg) = false := by
        cases rg with
        | nil => exact absurd rfl R.ne
        | cons a r => rfl
      have r24 : rhoOf S1 24 = some (.lst (lsI rg), false) := Q.rho S1 24 _ w1
      obtain ⟨S', e, ⟨L, a1, a2, a3, a4, a5⟩, o2⟩ := ih n l' S1 (lsI rg) false (by omega) hl' (by rw [o1 15 (by simp)]; exact h15) w3 r24 hnil
      refine ⟨S', ?_, ⟨L, a1, a2, .step (pop_of R w4) a3, a4, a5⟩, o1.trans o2⟩
      rw [show n + 70 + (m + 1) = (n + 70 + m) + 1 by omega, Q.wstep, ht]
      dsimp only
      rw [b1]
      exact e
structure Names (ns : List Str) : Prop where
  len : ns.length = 5
  nm : ∀ x ∈ ns, Nm x
  nd : ns.Nodup
noncomputable def nmS (ns : List Str) (k : Nat) : Str := ((Str.ofString "") :: ns).getD k (Str.ofString "")
noncomputable def toldD (ns : List Str) : D := .lst (((Str.ofString "") :: ns).map .str)
theorem told_item {ns : List Str} (N : Names ns) {k : Nat} (h : k ≤ 5) : itemD (toldD ns) (.int (k : Nat)) = some (.str (nmS ns k)) := by
  have hl : (((Str.ofString "") :: ns).map D.str).length = 6 := by simp [N.len]
  unfold toldD nmS
  rw [Q.itL, Q.idxN _ _ (by rw [hl]; omega), Q.bind_some, if_pos (by rw [hl]; unfold listLine; omega), List.getElem?_map, List.getD_eq_getElem?_getD,
    List.getElem?_eq_getElem (show k < ((Str.ofString "") :: ns).length by rw [List.length_cons, N.len]; omega)]
  rfl
theorem nmS_mem {ns : List Str} (N : Names ns) {k : Nat} (h1 : 1 ≤ k) (h5 : k ≤ 5) : nmS ns k ∈ ns := by
  obtain ⟨m, rfl⟩ : ∃ m, k = m + 1 := ⟨k - 1, by omega⟩
  unfold nmS
  rw [List.getD_eq_getElem?_getD, List.getElem?_cons_succ, List.getElem?_eq_getElem (show m < ns.length by rw [N.len]; omega)]
  exact List.getElem_mem _
theorem nmS_Nm {ns : List Str} (N : Names ns) {k : Nat} (h1 : 1 ≤ k) (h5 : k ≤ 5) : Nm (nmS ns k) := N.nm _ (nmS_mem N h1 h5)
theorem nmS_inj {ns : List Str} (N : Names ns) {j k : Nat} (h1 : j ≤ 5) (h5 : k ≤ 5) (e : nmS ns j = nmS ns k) : j = k := by
  have hnd : ((Str.ofString "") :: ns).Nodup := by
    rw [List.nodup_cons]
    refine ⟨fun q => (N.nm _ q).ne ?_, N.nd⟩
    exact empty_toList
  have hl : ((Str.ofString "") :: ns).length = 6 := by simp [N.len]
  unfold nmS at e
  rw [List.getD_eq_getElem?_getD, List.getD_eq_getElem?_getD, List.getElem?_eq_getElem (by omega), List.getElem?_eq_getElem (by omega)] at e
  have e : ((Str.ofString "") :: ns)[j]? = ((Str.ofString "") :: ns)[k]? := by rw [List.getElem?_eq_getElem (by omega), List.getElem?_eq_getElem (by omega)]; exact congrArg some e
  exact (List.getElem?_inj (by omega) hnd).mp e
theorem names_five {ns : List Str} (N : Names ns) : ns = [nmS ns 1, nmS ns 2, nmS ns 3, nmS ns 4, nmS ns 5] := by
  have := N.len
  match ns, this with
  | [a, b, c, d, e], _ => rfl
noncomputable def ch (f : Nat → Nat) : Nat → Nat → List Nat
  | 0, _ => []
  | n + 1, k => if k = 0 then [] else ch f n (f k) ++ [k]
theorem ch_mem {f : Nat → Nat} (hf : ∀ k, f k ≤ 5) : ∀ (n k : Nat), k ≤ 5 → ∀ j ∈ ch f n k, 1 ≤ j ∧ j ≤ 5
  | 0, _, _, j, h => by cases h
  | n + 1, k, hk, j, h => by
    unfold ch at h
    split at h
    · cases h
    · rcases List.mem_append.mp h with h | h
      · exact ch_mem hf n _ (hf k) j h
      · rw [List.mem_singleton.mp h]; omega
theorem ch_len (f : Nat → Nat) : ∀ (n k : Nat), (ch f n k).length ≤ n
  | 0, _ => Nat.le_refl _
  | n + 1, k => by
    unfold ch; split
    · simp
    · rw [List.length_append]; have := ch_len f n (f k); simp; omega
theorem natne0 (a : Nat) : (((a : Nat) : Int) != 0) = !decide (a = 0) := by
  by_cases h : a = 0
  · subst h; rfl
  · rw [decide_eq_false h]; exact bne_iff_ne.mpr (by omega)
theorem path_while {ns : List Str} (N : Names ns) {f : Nat → Nat} (h0 : f 0 = 0) (hf : ∀ k, f k ≤ 5) {tp : Bool} : ∀ (m n k : Nat) (acc : List Nat) (S : Sta), k ≤ 5 → it f m k = 0 → acc.length + m ≤ 20 → (∀ j ∈ acc, 1 ≤ j ∧ j ≤ 5) →
    S 22 = some (.fr (toldD ns)) → S 25 = some (.fr (.lst (sixD f))) → S 26 = some (.fr (.int (k : Nat))) → S 0 = some (.fr (.str (pathS (acc.map (nmS ns))))) →
    ∃ S', exW nm fn FT14 sF_law_due tp (n + 20 + m) (.cmp .ne (.var 26 ⟨251,14,251,16⟩) (.int (0) 0 ⟨251,20,251,21⟩) ⟨251,14,251,21⟩) (.cons (.asg 0 ⟨252,12,252,16⟩ (.bin .add (.bin .add (.str "/" 0 ⟨252,19,252,22⟩) (.item (.var 22 ⟨252,25,252,29⟩) (.var 26 ⟨252,30,252,32⟩) ⟨252,25,252,33⟩) ⟨252,19,252,33⟩) (.var 0 ⟨252,36,252,40⟩) ⟨252,19,252,40⟩) ⟨252,12,252,40⟩) (.cons (.asg 26 ⟨253,12,253,14⟩ (.item (.var 25 ⟨253,17,253,21⟩) (.var 26 ⟨253,22,253,24⟩) ⟨253,17,253,25⟩) ⟨253,12,253,25⟩) .nil)) S = some (.next, S') ∧ (S' 0 = some (.fr (.str (pathS ((ch f m k ++ acc).map (nmS ns))))) ∧ Off [0, 26] S S') := by
  intro m
  induction m with
  | zero =>
    intro n k acc S hk hz hl ha h22 h25 h26 hp
    have hk0 : k = 0 := hz
    subst hk0
    have r26 := Q.rho S 26 _ h26
    refine ⟨S, ?_, hp, Off.refl⟩
    have e : ((0 : Int) != 0) = false := rfl
    rw [Nat.add_zero, Q.wstep]
    simp only [Q.var, Q.int, Q.tcmp, Q.neI, Q.d_fr, Q.o_fr, Int.cast_ofNat_Int, r26, e]
  | succ m ih =>
    intro n k acc S hk hz hl ha h22 h25 h26 hp
    have r26 := Q.rho S 26 _ h26
    have r25 := Q.rho S 25 _ h25
    have r22 := Q.rho S 22 _ h22
    have r0 := Q.rho S 0 _ hp
    by_cases hk0 : k = 0
    · subst hk0
      refine ⟨S, ?_, hp, Off.refl⟩
      have e : ((0 : Int) != 0) = false := rfl
      rw [show n + 20 + (m + 1) = (n + m) + 21 by omega, Q.wstep]
      simp only [Q.var, Q.int, Q.tcmp, Q.neI, Q.d_fr, Q.o_fr, Int.cast_ofNat_Int, r26, e]
    · have e1 := told_item N hk
      have e2 := six_item f hk
      have hNm := nmS_Nm N (k := k) (by omega) hk
      have hlen : (pathS (acc.map (nmS ns))).length ≤ 420 := by
        have := pathS_length (ns := acc.map (nmS ns)) (fun x hx => by obtain ⟨j, hj, rfl⟩ := List.mem_map.mp hx; exact nmS_Nm N (ha j hj).1 (ha j hj).2)
        rw [List.length_map] at this; omega
      have l1 : slash.length + (nmS ns k).length ≤ 100000 := by rw [slash_length]; have := hNm.le; omega
      have l2 : (slash ++ nmS ns k).length + (pathS (acc.map (nmS ns))).length ≤ 100000 := by rw [Str.length_append, slash_length]; have := hNm.le; omega
      have ep : slash ++ nmS ns k ++ pathS (acc.map (nmS ns)) = pathS ((k :: acc).map (nmS ns)) := by
        apply str_ext
        rw [append_toList, append_toList, slash_toList, toList_pathS, toList_pathS, List.map_cons, pathL_cons]
        rfl
      have esl : Str.ofString "/" = slash := rfl
      have body : ∃ S1, exB nm fn FT14 sF_law_due tp (n + 20 + m) (.cons (.asg 0 ⟨252,12,252,16⟩ (.bin .add (.bin .add (.str "/" 0 ⟨252,19,252,22⟩) (.item (.var 22 ⟨252,25,252,29⟩) (.var 26 ⟨252,30,252,32⟩) ⟨252,25,252,33⟩) ⟨252,19,252,33⟩) (.var 0 ⟨252,36,252,40⟩) ⟨252,19,252,40⟩) ⟨252,12,252,40⟩) (.cons (.asg 26 ⟨253,12,253,14⟩ (.item (.var 25 ⟨253,17,253,21⟩) (.var 26 ⟨253,22,253,24⟩) ⟨253,17,253,25⟩) ⟨253,12,253,25⟩) .nil)) S = some (.next, S1) ∧ ((S1 0 = some (.fr (.str (pathS ((k :: acc).map (nmS ns))))) ∧ S1 26 = some (.fr (.int (f k : Nat)))) ∧ Off [0, 26] S S1) := by
        rw [show n + 20 + m = (n + m) + 20 by omega]
        apply Q.out
        · simp only [Q.var, Q.str, Q.bin, Q.item, Q.asg, Q.bnil, Q.bcons, Q.addS, Q.itV_ff, Q.rho_put, Q.d_fr, Q.o_fr, Q.map_some, strLine, List.map_cons, Bool.or_false, Bool.and_self, if_true, if_false, Q.sw_bin, Q.sw_item, reduceCtorEq, k_law_due, r0, r22, r25, r26, e1, e2, esl, l1, l2, ep]
          rfl
        · exact ⟨⟨by rw [put_at, if_neg (by omega), Q.put_get]; rfl, Q.put_get⟩, (Off.refl.put (by simp)).put (by simp)⟩
      obtain ⟨S1, b1, ⟨b2, b3⟩, o1⟩ := body
      obtain ⟨S', w1, w2, w3⟩ := ih n (f k) (k :: acc) S1 (hf k) hz (by rw [List.length_cons]; omega) (fun j hj => (List.mem_cons.mp hj).elim (fun e => by subst e; exact ⟨by omega, hk⟩) (ha j)) (by rw [o1 22 (by simp)]; exact h22) (by rw [o1 25 (by simp)]; exact h25) b3 b2
      refine ⟨S', ?_, ?_, o1.trans w3⟩
      · have ht : evT nm fn FT14 (n + 20 + m) sF_law_due (.cmp .ne (.var 26 ⟨251,14,251,16⟩) (.int (0) 0 ⟨251,20,251,21⟩) ⟨251,14,251,21⟩) tp (rhoOf S) = some true := by
          have e : (((k : Nat) : Int) != 0) = true := by rw [natne0, decide_eq_false hk0]; rfl
          rw [show n + 20 + m = (n + m) + 20 by omega]
          simp only [Q.var, Q.int, Q.tcmp, Q.neI, Q.d_fr, Q.o_fr, r26, e]
        rw [show n + 20 + (m + 1) = (n + 20 + m) + 1 by omega, Q.wstep, ht]
        dsimp only
        rw [b1]
        exact w1
      · rw [w2]
        have : ch f (m + 1) k ++ acc = ch f m (f k) ++ (k :: acc) := by
          show (if k = 0 then [] else ch f m (f k) ++ [k]) ++ acc = _
          rw [if_neg hk0, List.append_assoc]; rfl
        rw [this]
end Mine.L2
end
section
set_option maxRecDepth 100000
open PySem PySem.W PyProof.Rows PySem.Calls
set_option autoImplicit false
namespace Mine.L2
open Ri Q
theorem store_new : ∀ (ks : List Str) (ds : List D) (x : Str) (v : D), x ∉ ks → ks.length = ds.length → storeD ks ds x v = (ks ++ [x], ds ++ [v])
  | [], [], _, _, _, _ => rfl
  | k :: ks, d :: ds, x, v, hn, hl => by
    have hk : k ≠ x := fun e => hn (by rw [e]; exact List.mem_cons_self)
    have ih := store_new ks ds x v (fun q => hn (List.mem_cons_of_mem _ q)) (by simpa using hl)
    show (if k = x then (k :: ks, v :: ds) else (k :: (storeD ks ds x v).1, d :: (storeD ks ds x v).2)) = _
    rw [if_neg hk, ih]; rfl
  | [], _ :: _, _, _, _, hl => by simp at hl
  | _ :: _, [], _, _, _, hl => by simp at hl
noncomputable def fks (ns : List Str) (m : Nat) : List Str := Str.ofString "" :: (List.range m).map fun i => nmS ns (i + 1)
noncomputable def fds (ns : List Str) (f : Nat → Nat) (m : Nat) : List D := .str slash :: (List.range m).map fun i => .str (pathS ((ch f 5 (i + 1)).map (nmS ns)))
theorem fks_succ (ns : List Str) (m : Nat) : fks ns (m + 1) = fks ns m ++ [nmS ns (m + 1)] := by unfold fks; rw [List.range_succ, List.map_append]; rfl
theorem fds_succ (ns : List Str) (f : Nat → Nat) (m : Nat) : fds ns f (m + 1) = fds ns f m ++ [.str (pathS ((ch f 5 (m + 1)).map (nmS ns)))] := by unfold fds; rw [List.range_succ, List.map_append]; rfl
theorem fks_no {ns : List Str} (N : Names ns) {m : Nat} (h : m < 5) : nmS ns (m + 1) ∉ fks ns m := by
  unfold fks
  intro q
  rcases List.mem_cons.mp q with q | q
  · have : nmS ns (m + 1) = nmS ns 0 := q
    have := nmS_inj N (by omega) (by omega) this
    omega
  · obtain ⟨i, hi, e⟩ := List.mem_map.mp q
    have hi := List.mem_range.mp hi
    have := nmS_inj N (by omega) (by omega) e
    omega
theorem folder_turn {ns : List Str} (N : Names ns) {f : Nat → Nat} (h0 : f 0 = 0) (hf : ∀ k, f k ≤ 5) (hz : ∀ k, 1 ≤ k → k ≤ 5 → it f 5 k = 0) {tp : Bool} (n m : Nat) (S : Sta) (hm : m < 5)
    (h22 : S 22 = some (.fr (toldD ns))) (h25 : S 25 = some (.fr (.lst (sixD f)))) (h27 : S 27 = some (.di (fks ns m) (fds ns f m))) :
    ∃ S', exB nm fn FT14 sF_law_due tp (n + 40) (.cons (.asg 0 ⟨249,8,249,12⟩ (.str "" 0 ⟨249,15,249,17⟩) ⟨249,8,249,17⟩) (.cons (.asg 26 ⟨250,8,250,10⟩ (.var 11 ⟨250,13,250,14⟩) ⟨250,8,250,14⟩) (.cons (.whl (.cmp .ne (.var 26 ⟨251,14,251,16⟩) (.int (0) 0 ⟨251,20,251,21⟩) ⟨251,14,251,21⟩) (.cons (.asg 0 ⟨252,12,252,16⟩ (.bin .add (.bin .add (.str "/" 0 ⟨252,19,252,22⟩) (.item (.var 22 ⟨252,25,252,29⟩) (.var 26 ⟨252,30,252,32⟩) ⟨252,25,252,33⟩) ⟨252,19,252,33⟩) (.var 0 ⟨252,36,252,40⟩) ⟨252,19,252,40⟩) ⟨252,12,252,40⟩) (.cons (.asg 26 ⟨253,12,253,14⟩ (.item (.var 25 ⟨253,17,253,21⟩) (.var 26 ⟨253,22,253,24⟩) ⟨253,17,253,25⟩) ⟨253,12,253,25⟩) .nil)) ⟨251,8,253,25⟩) (.cons (.setI 27 ⟨254,8,254,15⟩ (.item (.var 22 ⟨254,16,254,20⟩) (.var 11 ⟨254,21,254,22⟩) ⟨254,16,254,23⟩) ⟨254,8,254,24⟩ (.var 0 ⟨254,27,254,31⟩) ⟨254,8,254,31⟩) .nil)))) (S.put 11 (.fr (.int ((m + 1 : Nat) : Int)))) = some (.next, S') ∧ (S' 27 = some (.di (fks ns (m + 1)) (fds ns f (m + 1))) ∧ Off [0, 11, 26, 27] S S') := by
  have s0 : exS nm fn FT14 sF_law_due tp (n + 39) (.asg 0 ⟨249,8,249,12⟩ (.str "" 0 ⟨249,15,249,17⟩) ⟨249,8,249,17⟩) (S.put 11 (.fr (.int ((m + 1 : Nat) : Int)))) = some (.next, (S.put 11 (.fr (.int ((m + 1 : Nat) : Int)))).put 0 (.fr (.str (Str.ofString "")))) := by
    simp only [Q.str, Q.asg, Bool.and_self, if_true, Q.sw_str, k_law_due]
  generalize hS1 : (S.put 11 (.fr (.int ((m + 1 : Nat) : Int)))).put 0 (.fr (.str (Str.ofString ""))) = S1 at s0
  have o1 : Off [0, 11, 26, 27] S S1 := by rw [← hS1]; exact (Off.refl.put (by simp)).put (by simp)
  have h11 : S1 11 = some (.fr (.int ((m + 1 : Nat) : Int))) := by rw [← hS1, put_at, if_neg (by omega), Q.put_get]
  have r11 := Q.rho S1 11 _ h11
  have s1 : exS nm fn FT14 sF_law_due tp (n + 38) (.asg 26 ⟨250,8,250,10⟩ (.var 11 ⟨250,13,250,14⟩) ⟨250,8,250,14⟩) S1 = some (.next, S1.put 26 (.fr (.int ((m + 1 : Nat) : Int)))) := by
    simp only [Q.var, Q.asg, Q.d_fr, Q.o_fr, Bool.and_self, if_true, Q.sw_var, k_law_due, r11]
  obtain ⟨S2, e2, p0, o2⟩ := path_while N h0 hf (tp := tp) 5 (n + 11) (m + 1) [] (S1.put 26 (.fr (.int ((m + 1 : Nat) : Int)))) (by omega) (hz _ (by omega) (by omega)) (by simp) (fun j hj => by cases hj)
    (by rw [put_at, if_neg (by omega), o1 22 (by simp)]; exact h22) (by rw [put_at, if_neg (by omega), o1 25 (by simp)]; exact h25) Q.put_get (by rw [put_at, if_neg (by omega), ← hS1, Q.put_get]; exact congrArg (fun x => some (Slot.fr (.str x))) pathS_nil.symm)
  rw [List.append_nil] at p0
  have o12 : Off [0, 11, 26, 27] S S2 := (o1.put (by simp)).trans (o2.mono (by simp))
  have q27 : S2 27 = some (.di (fks ns m) (fds ns f m)) := by rw [o2 27 (by simp), put_at, if_neg (by omega), ← hS1, put_at, if_neg (by omega), put_at, if_neg (by omega)]; exact h27
  have q22 := Q.rho S2 22 _ ((o12 22 (by simp)).trans h22)
  have q11 := Q.rho S2 11 _ (show S2 11 = some (.fr (.int ((m + 1 : Nat) : Int))) by rw [o2 11 (by simp), put_at, if_neg (by omega)]; exact h11)
  have q0 := Q.rho S2 0 _ p0
  have e1 := told_item N (k := m + 1) (by omega)
  have st := store_new (fks ns m) (fds ns f m) (nmS ns (m + 1)) (.str (pathS ((ch f 5 (m + 1)).map (nmS ns)))) (fks_no N hm) (by unfold fks fds; simp)
  have hl : (fks ns m).length ≤ 100000 := by unfold fks; simp; omega
  have s3 : exS nm fn FT14 sF_law_due tp (n + 36) (.setI 27 ⟨254,8,254,15⟩ (.item (.var 22 ⟨254,16,254,20⟩) (.var 11 ⟨254,21,254,22⟩) ⟨254,16,254,23⟩) ⟨254,8,254,24⟩ (.var 0 ⟨254,27,254,31⟩) ⟨254,8,254,31⟩) S2 = some (.next, S2.put 27 (.di (fks ns (m + 1)) (fds ns f (m + 1)))) := by
    simp only [Q.var, Q.item, Q.setI, Q.itV_ff, Q.d_fr, Q.o_fr, Q.o_di, Q.map_some, Q.ss_di, Q.at_s, listLine, Bool.and_self, if_true, and_self, q27, q22, q11, q0, e1, st, hl, fks_succ, fds_succ]
  refine ⟨S2.put 27 (.di (fks ns (m + 1)) (fds ns f (m + 1))), ?_, Q.put_get, o12.put (by simp)⟩
  rw [Q.bcons, s0]
  dsimp only
  rw [Q.bcons, s1]
  dsimp only
  rw [Q.bcons, Q.swhl, e2]
  dsimp only
  rw [Q.bcons, s3]
  rfl
theorem putAll_aux : ∀ (kvs : List (Str × D)) (ks : List Str) (ds : List D), ks.length = ds.length → (ks ++ kvs.map (·.1)).Nodup → kvs.foldl (fun (m : List Str × List D) kv => storeD m.1 m.2 kv.1 kv.2) (ks, ds) = (ks ++ kvs.map (·.1), ds ++ kvs.map (·.2))
  | [], ks, ds, _, _ => by simp
  | kv :: r, ks, ds, hl, hn => by
    have hx : kv.1 ∉ ks := fun q => by
      rw [List.nodup_append] at hn
      exact hn.2.2 _ q _ (by simp) rfl
    rw [List.foldl_cons, store_new ks ds kv.1 kv.2 hx hl, putAll_aux r (ks ++ [kv.1]) (ds ++ [kv.2]) (by simp [hl]) (by rw [List.append_assoc]; exact hn), List.append_assoc, List.append_assoc]
    rfl
theorem putAll_eq (kvs : List (Str × D)) (hn : (kvs.map (·.1)).Nodup) : putAll kvs = (kvs.map (·.1), kvs.map (·.2)) := by
  have := putAll_aux kvs [] [] rfl hn
  simpa [putAll] using this
noncomputable def lostD (L : Nat → Nat) : List D := [.int (L 1 : Nat), .int (L 2 : Nat), .int (L 3 : Nat), .int (L 4 : Nat), .int (L 5 : Nat)]
theorem g_due {ps : List (List Nat)} (P : Piles ps) {ns : List Str} (N : Names ns) : ∃ L, Pops (arF ps) (fun _ => 0) L ∧ (∀ k, 1 ≤ k → k ≤ 5 → it (top (arF ps) L) 5 k = 0) ∧
    E14.g [toldD ns, arrD ps] = some (.tup [.dct ns (lostD L), .dct (fks ns 5) (fds ns (top (arF ps) L) 5)]) := by
  generalize htp : (!dF_law_due.exact) = tp
  have s0 : exS nm fn FT14 sF_law_due tp 199 (.own 23 ⟨234,4,234,8⟩ (.list (.cons (.int (0) 0 ⟨234,12,234,13⟩) (.cons (.int (0) 0 ⟨234,15,234,16⟩) (.cons (.int (0) 0 ⟨234,18,234,19⟩) (.cons (.int (0) 0 ⟨234,21,234,22⟩) (.cons (.int (0) 0 ⟨234,24,234,25⟩) (.cons (.int (0) 0 ⟨234,27,234,28⟩) .nil)))))) ⟨234,11,234,29⟩) ⟨234,4,234,29⟩) (staOf pF_law_due [toldD ns, arrD ps]) = some (.next, (staOf pF_law_due [toldD ns, arrD ps]).put 23 (.li (sixD fun _ => 0))) := by
    simp only [Q.int, Q.list, Q.nil, Q.cons, Q.own, Q.unt_nil, Q.unt_cons, Q.map_some, Q.so_li, Q.at_i, List.map_cons, List.map_nil, List.length_cons, List.length_nil, List.all_cons, List.all_nil, Bool.not_true, Bool.not_false, Bool.and_self, if_true, Q.sw_list, Nat.reduceAdd, Nat.reduceLeDiff, Nat.zero_add, k_law_due]
    rfl
  have s1 : exS nm fn FT14 sF_law_due tp 198 (.own 24 ⟨235,4,235,8⟩ (.list (.cons (.int (0) 0 ⟨235,12,235,13⟩) .nil) ⟨235,11,235,14⟩) ⟨235,4,235,14⟩) ((staOf pF_law_due [toldD ns, arrD ps]).put 23 (.li (sixD fun _ => 0))) = some (.next, ((staOf pF_law_due [toldD ns, arrD ps]).put 23 (.li (sixD fun _ => 0))).put 24 (.li [.int 0])) := by
    simp only [Q.int, Q.list, Q.nil, Q.cons, Q.own, Q.unt_nil, Q.unt_cons, Q.map_some, Q.so_li, Q.at_i, List.map_cons, List.map_nil, List.length_cons, List.length_nil, List.all_cons, List.all_nil, Bool.not_true, Bool.not_false, Bool.and_self, if_true, Q.sw_list, Nat.reduceLeDiff, Nat.zero_add, k_law_due]
  have h22' : (staOf pF_law_due [toldD ns, arrD ps]) 22 = some (.fr (toldD ns)) := rfl
  have h15' : (staOf pF_law_due [toldD ns, arrD ps]) 15 = some (.fr (arrD ps)) := rfl
  generalize hS0 : staOf pF_law_due [toldD ns, arrD ps] = S0 at s0 s1 h22' h15'
  obtain ⟨S1, e1, ⟨L, a1, a2, a3, a4, a5⟩, o1⟩ := due_while P (tp := tp) 20 106 (fun _ => 0) ((S0.put 23 (.li (sixD fun _ => 0))).put 24 (.li [.int 0])) [.int 0] true (by omega) (fun _ => by omega)
    (by rw [put_at, if_neg (by omega), put_at, if_neg (by omega)]; exact h15') (by rw [put_at, if_neg (by omega), Q.put_get]) (by rw [Q.rho _ _ _ Q.put_get]; rfl) rfl
  have h22 : S1 22 = some (.fr (toldD ns)) := by rw [o1 22 (by simp), put_at, if_neg (by omega), put_at, if_neg (by omega)]; exact h22'
  have s3 : exS nm fn FT14 sF_law_due tp 196 (.own 27 ⟨247,4,247,11⟩ (.dict (.cons (.str "" 0 ⟨247,15,247,17⟩) .nil) (.cons (.str "/" 0 ⟨247,19,247,22⟩) .nil) ⟨247,14,247,23⟩) ⟨247,4,247,23⟩) S1 = some (.next, S1.put 27 (.di (fks ns 0) (fds ns (top (arF ps) L) 0))) := by
    simp only [Q.str, Q.dict, Q.pnil, Q.pcons, Q.own, Q.unt_nil, Q.unt_cons, Q.map_some, Q.so_di, Q.at_s, List.nodup_cons, List.not_mem_nil, List.nodup_nil, List.map_cons, List.map_nil, List.length_cons, List.length_nil, List.all_cons, List.all_nil, Bool.not_false, Bool.and_self, if_true, Q.sw_dict, Nat.reduceLeDiff, and_self, not_false_eq_true, Nat.lt_add_one, Nat.zero_add, k_law_due]
    rfl
  generalize hS2 : S1.put 27 (.di (fks ns 0) (fds ns (top (arF ps) L) 0)) = S2 at s3
  have hsrc : evSrc nm fn FT14 194 sF_law_due (.bi .range ⟨248,13,248,18⟩ (.cons (.int (1) 0 ⟨248,19,248,20⟩) (.cons (.int (6) 0 ⟨248,22,248,23⟩) .nil)) ⟨248,13,248,24⟩) tp (rhoOf S2) = some ([.int (1 : Nat), .int (2 : Nat), .int (3 : Nat), .int (4 : Nat), .int (5 : Nat)], false, false) := by
    simp only [Q.int, Q.nil, Q.cons, Q.srange, Q.rg2, Bool.and_self, decide_true, if_true, Q.na1, Q.na6, Nat.reduceLT, and_self, Int.cast_ofNat_Int, k_law_due]
    rfl
  obtain ⟨S3, e3, p27, o3⟩ := Q.loop_inv (f := exB nm fn FT14 sF_law_due tp 194 (.cons (.asg 0 ⟨249,8,249,12⟩ (.str "" 0 ⟨249,15,249,17⟩) ⟨249,8,249,17⟩) (.cons (.asg 26 ⟨250,8,250,10⟩ (.var 11 ⟨250,13,250,14⟩) ⟨250,8,250,14⟩) (.cons (.whl (.cmp .ne (.var 26 ⟨251,14,251,16⟩) (.int (0) 0 ⟨251,20,251,21⟩) ⟨251,14,251,21⟩) (.cons (.asg 0 ⟨252,12,252,16⟩ (.bin .add (.bin .add (.str "/" 0 ⟨252,19,252,22⟩) (.item (.var 22 ⟨252,25,252,29⟩) (.var 26 ⟨252,30,252,32⟩) ⟨252,25,252,33⟩) ⟨252,19,252,33⟩) (.var 0 ⟨252,36,252,40⟩) ⟨252,19,252,40⟩) ⟨252,12,252,40⟩) (.cons (.asg 26 ⟨253,12,253,14⟩ (.item (.var 25 ⟨253,17,253,21⟩) (.var 26 ⟨253,22,253,24⟩) ⟨253,17,253,25⟩) ⟨253,12,253,25⟩) .nil)) ⟨251,8,253,25⟩) (.cons (.setI 27 ⟨254,8,254,15⟩ (.item (.var 22 ⟨254,16,254,20⟩) (.var 11 ⟨254,21,254,22⟩) ⟨254,16,254,23⟩) ⟨254,8,254,24⟩ (.var 0 ⟨254,27,254,31⟩) ⟨254,8,254,31⟩) .nil))))) (tg := (.one 11 ⟨248,8,248,9⟩))
    (I := fun m S' => S' 27 = some (.di (fks ns m) (fds ns (top (arF ps) L) m)) ∧ Off [0, 11, 26, 27] S2 S') [.int (1 : Nat), .int (2 : Nat), .int (3 : Nat), .int (4 : Nat), .int (5 : Nat)] 0 S2 ⟨by rw [← hS2, Q.put_get], Off.refl⟩ (fun j d S hd hI => by
      have hj : j < 5 := by have := (List.getElem?_eq_some_iff.mp hd).1; exact this
      have hd' : d = .int ((j + 1 : Nat) : Int) := by
        have : j = 0 ∨ j = 1 ∨ j = 2 ∨ j = 3 ∨ j = 4 := by omega
        rcases this with rfl | rfl | rfl | rfl | rfl <;> cases hd <;> rfl
      subst hd'
      rw [Nat.zero_add] at hI ⊢
      obtain ⟨S', w1, w2, w3⟩ := folder_turn N (top0 _ L) (P.top_le L) a4 (tp := tp) 154 j S hj (by rw [hI.2 22 (by simp), ← hS2, put_at, if_neg (by omega)]; exact h22) (by rw [hI.2 25 (by simp), ← hS2, put_at, if_neg (by omega)]; exact a2) hI.1
      exact ⟨_, S', rfl, w1, w2, hI.2.trans w3⟩)
  have s4 : exS nm fn FT14 sF_law_due tp 195 (.for (.one 11 ⟨248,8,248,9⟩) (.bi .range ⟨248,13,248,18⟩ (.cons (.int (1) 0 ⟨248,19,248,20⟩) (.cons (.int (6) 0 ⟨248,22,248,23⟩) .nil)) ⟨248,13,248,24⟩) (.cons (.asg 0 ⟨249,8,249,12⟩ (.str "" 0 ⟨249,15,249,17⟩) ⟨249,8,249,17⟩) (.cons (.asg 26 ⟨250,8,250,10⟩ (.var 11 ⟨250,13,250,14⟩) ⟨250,8,250,14⟩) (.cons (.whl (.cmp .ne (.var 26 ⟨251,14,251,16⟩) (.int (0) 0 ⟨251,20,251,21⟩) ⟨251,14,251,21⟩) (.cons (.asg 0 ⟨252,12,252,16⟩ (.bin .add (.bin .add (.str "/" 0 ⟨252,19,252,22⟩) (.item (.var 22 ⟨252,25,252,29⟩) (.var 26 ⟨252,30,252,32⟩) ⟨252,25,252,33⟩) ⟨252,19,252,33⟩) (.var 0 ⟨252,36,252,40⟩) ⟨252,19,252,40⟩) ⟨252,12,252,40⟩) (.cons (.asg 26 ⟨253,12,253,14⟩ (.item (.var 25 ⟨253,17,253,21⟩) (.var 26 ⟨253,22,253,24⟩) ⟨253,17,253,25⟩) ⟨253,12,253,25⟩) .nil)) ⟨251,8,253,25⟩) (.cons (.setI 27 ⟨254,8,254,15⟩ (.item (.var 22 ⟨254,16,254,20⟩) (.var 11 ⟨254,21,254,22⟩) ⟨254,16,254,23⟩) ⟨254,8,254,24⟩ (.var 0 ⟨254,27,254,31⟩) ⟨254,8,254,31⟩) .nil)))) ⟨248,4,254,31⟩) S2 = some (.next, S3) := by
    rw [Q.sfor, hsrc]
    simp only [Q.tw1, Q.tv1, k_law_due, List.all_cons, List.all_nil, Bool.and_true, beq_self_eq_true, if_true]
    exact e3
  have p27 : S3 27 = some (.di (fks ns 5) (fds ns (top (arF ps) L) 5)) := p27
  have s5 : exS nm fn FT14 sF_law_due tp 194 (.frz 27) S3 = some (.next, S3.put 27 (.fr (.dct (fks ns 5) (fds ns (top (arF ps) L) 5)))) := by
    rw [Q.sfrz, p27]; rfl
  have r22 := Q.rho S3 22 _ (show S3 22 = some (.fr (toldD ns)) by rw [o3 22 (by simp), ← hS2, put_at, if_neg (by omega)]; exact h22)
  have r23 := Q.rho S3 23 _ (show S3 23 = some (.li (sixD L)) by rw [o3 23 (by simp), ← hS2, put_at, if_neg (by omega)]; exact a1)
  have s6 : exS nm fn FT14 sF_law_due tp 193 (.ret (.tup (.cons (.dcomp (.item (.var 22 ⟨255,13,255,17⟩) (.var 11 ⟨255,18,255,19⟩) ⟨255,13,255,20⟩) (.item (.var 23 ⟨255,22,255,26⟩) (.var 11 ⟨255,27,255,28⟩) ⟨255,22,255,29⟩) (.cons (.one 11 ⟨255,34,255,35⟩) (.bi .range ⟨255,39,255,44⟩ (.cons (.int (1) 0 ⟨255,45,255,46⟩) (.cons (.int (6) 0 ⟨255,48,255,49⟩) .nil)) ⟨255,39,255,50⟩) .nil .nil) sc3 ⟨255,12,255,51⟩) (.cons (.var 27 ⟨255,53,255,60⟩) .nil)) 0 ⟨255,11,255,61⟩) ⟨255,4,255,61⟩) (S3.put 27 (.fr (.dct (fks ns 5) (fds ns (top (arF ps) L) 5)))) = some (.ret (.tup [.dct ns (lostD L), .dct (fks ns 5) (fds ns (top (arF ps) L) 5)]), S3.put 27 (.fr (.dct (fks ns 5) (fds ns (top (arF ps) L) 5)))) := by
    have t1 : itemD (toldD ns) (.int 1) = some (.str (nmS ns 1)) := told_item N (k := 1) (by omega)
    have t2 : itemD (toldD ns) (.int 2) = some (.str (nmS ns 2)) := told_item N (k := 2) (by omega)
    have t3 : itemD (toldD ns) (.int 3) = some (.str (nmS ns 3)) := told_item N (k := 3) (by omega)
    have t4 : itemD (toldD ns) (.int 4) = some (.str (nmS ns 4)) := told_item N (k := 4) (by omega)
    have t5 : itemD (toldD ns) (.int 5) = some (.str (nmS ns 5)) := told_item N (k := 5) (by omega)
    have l1 : itemD (.lst (sixD L)) (.int 1) = some (.int (L 1 : Nat)) := six_item L (k := 1) (by omega)
    have l2 : itemD (.lst (sixD L)) (.int 2) = some (.int (L 2 : Nat)) := six_item L (k := 2) (by omega)
    have l3 : itemD (.lst (sixD L)) (.int 3) = some (.int (L 3 : Nat)) := six_item L (k := 3) (by omega)
    have l4 : itemD (.lst (sixD L)) (.int 4) = some (.int (L 4 : Nat)) := six_item L (k := 4) (by omega)
    have l5 : itemD (.lst (sixD L)) (.int 5) = some (.int (L 5 : Nat)) := six_item L (k := 5) (by omega)
    have hp := putAll_eq [(nmS ns 1, D.int (L 1 : Nat)), (nmS ns 2, .int (L 2 : Nat)), (nmS ns 3, .int (L 3 : Nat)), (nmS ns 4, .int (L 4 : Nat)), (nmS ns 5, .int (L 5 : Nat))] (by
      have := N.nd
      rw [names_five N] at this
      exact this)
    have hp1 : [nmS ns 1, nmS ns 2, nmS ns 3, nmS ns 4, nmS ns 5] = ns := (names_five N).symm
    simp only [Q.var, Q.int, Q.item, Q.tup, Q.dcomp, Q.nil, Q.cons, Q.srange, Q.rg2, Q.g0, Q.g1, Q.inil, Q.sret, Q.itV_ff, Q.itV_i, Q.unt_nil, Q.unt_cons, Q.rho_put, Q.d_fr, Q.d_li, Q.o_fr, Q.o_li, Q.map_some, Q.b1, Q.tw1, listLine, List.cons_append, List.nil_append, List.map_cons, List.map_nil, List.length_cons, List.length_nil, Bool.not_true, Bool.not_false, Bool.and_self, decide_true, if_true, if_false, beq_self_eq_true, Q.na1, Q.na6, Nat.reduceEqDiff, Nat.reduceAdd, Nat.reduceLT, Nat.reduceLeDiff, and_self, Int.cast_ofNat_Int, Nat.zero_add, range16, Q.cl_nil, Q.cl_cons, Q.kv_nil, Q.kv_cons, k_law_due, r22, r23, t1, t2, t3, t4, t5, l1, l2, l3, l4, l5, hp, hp1]
    rfl
  refine ⟨L, a3, a4, ?_⟩
  rw [e14_g]
  refine Q.gOf_ex (ds' := [toldD ns, arrD ps]) rfl rfl ⟨S3.put 27 (.fr (.dct (fks ns 5) (fds ns (top (arF ps) L) 5))), ?_⟩
  rw [htp, hS0]
  unfold bF_law_due
  rw [Q.bcons, s0]
  dsimp only
  rw [Q.bcons, s1]
  dsimp only
  rw [Q.bcons, Q.swhl, e1]
  dsimp only
  rw [Q.bcons, s3]
  dsimp only
  rw [Q.bcons, s4]
  dsimp only
  rw [Q.bcons, s5]
  dsimp only
  rw [Q.bcons, s6]
end Mine.L2
end
section
set_option maxRecDepth 100000
open PySem PySem.W PyProof.Rows PySem.Calls
set_option autoImplicit false
namespace Mine.L2
open Ri Q
noncomputable def lnk (f : Nat → Nat) : List Nat → Prop
  | a :: b :: r => f a = b ∧ lnk f (b :: r)
  | _ => True
theorem lnk_snoc {f : Nat → Nat} {g : Nat} : ∀ {w : List Nat} {v : Nat}, lnk f (w ++ [v]) → f v = g → lnk f (w ++ [v] ++ [g])
  | [], v, _, h => ⟨h, trivial⟩
  | [a], v, h, e => ⟨h.1, e, trivial⟩
  | a :: b :: r, v, h, e => ⟨h.1, lnk_snoc (w := b :: r) h.2 e⟩
theorem lnk_left {f : Nat → Nat} : ∀ {a b : List Nat}, lnk f (a ++ b) → lnk f a
  | [], _, _ => trivial
  | [x], _, _ => trivial
  | x :: y :: r, b, h => ⟨h.1, lnk_left (a := y :: r) (b := b) h.2⟩
theorem lnk_right {f : Nat → Nat} : ∀ {a b : List Nat}, lnk f (a ++ b) → lnk f b
  | [], _, h => h
  | [x], [], _ => trivial
  | [x], y :: r, h => h.2
  | x :: y :: r, b, h => lnk_right (a := y :: r) h.2
theorem lnk_congr {f g : Nat → Nat} : ∀ {w : List Nat} {v : Nat}, (∀ k ∈ w, g k = f k) → lnk f (w ++ [v]) → lnk g (w ++ [v])
  | [], _, _, _ => trivial
  | [a], v, hk, h => ⟨(hk a (by simp)).trans h.1, trivial⟩
  | a :: b :: r, v, hk, h => ⟨(hk a (by simp)).trans h.1, lnk_congr (w := b :: r) (fun k q => hk k (List.mem_cons_of_mem _ q)) h.2⟩
theorem lnk_get {f : Nat → Nat} : ∀ {w : List Nat} {i x : Nat}, lnk f (x :: w) → i ≤ w.length → (x :: w)[i]? = some (it f i x)
  | w, 0, x, _, _ => rfl
  | [], i + 1, x, _, h => by simp at h
  | y :: r, i + 1, x, h, hi => by
    rw [List.getElem?_cons_succ]
    have := lnk_get (f := f) (w := r) (i := i) (x := y) h.2 (by simpa using hi)
    rw [this]
    show _ = some (it f i (f x))
    rw [h.1]
theorem ring_lnk {f : Nat → Nat} (h0 : f 0 = 0) (hf : ∀ k, f k ≤ 5) {g : Nat} {b : List Nat} (hn : (g :: b).Nodup) (hl : lnk f (g :: b)) (hc : f ((g :: b).getLast (by simp)) = g) (hg : g ≠ 0) : RingList f (g :: b) := by
  have hlast : (g :: b).getLast (by simp) = it f b.length g := by
    rw [List.getLast_eq_getElem]
    have h := lnk_get hl (Nat.le_refl _)
    rw [List.getElem?_eq_getElem (by simp)] at h
    have h := Option.some.inj h
    rw [← h]
    rfl
  have hp : it f (b.length + 1) g = g := by rw [it_succ, ← hlast]; exact hc
  have hr : Ring f g := ⟨hg, b.length + 1, by omega, hp⟩
  have hmem : ∀ k, k ∈ g :: b ↔ On f g k := fun k => by
    constructor
    · intro hk
      obtain ⟨i, hi, e⟩ := List.getElem_of_mem hk
      have h := lnk_get hl (i := i) (by simpa using Nat.lt_succ_iff.mp hi)
      rw [List.getElem?_eq_getElem hi, e] at h
      exact ⟨i, (Option.some.inj h).symm⟩
    · rintro ⟨i, rfl⟩
      have hlt : i % (b.length + 1) < b.length + 1 := Nat.mod_lt _ (by omega)
      have h := lnk_get hl (i := i % (b.length + 1)) (by omega)
      have e : it f i g = it f (i % (b.length + 1)) g := by
        have := it_add f ((b.length + 1) * (i / (b.length + 1))) (i % (b.length + 1)) g
        rw [it_mul hp, Nat.div_add_mod] at this
        exact this
      rw [e]
      exact List.mem_of_getElem? h
  refine ⟨by simp, hn, fun k hk => ?_, g, hr, hmem⟩
  have rk := hr.on h0 ((hmem k).mp hk)
  exact ⟨Nat.pos_of_ne_zero rk.1, rk.le hf⟩
inductive Okf (f : Nat → Nat) : List (Nat × List Nat) → Prop
  | root : Okf f [(0, [])]
  | snoc {E : List (Nat × List Nat)} {k : Nat} {c : List Nat} : Okf f E → k ∉ E.map (·.1) → 1 ≤ k → k ≤ 5 → (f k, c) ∈ E → Okf f (E ++ [(k, c ++ [k])])
theorem Okf.congr {f g : Nat → Nat} {E : List (Nat × List Nat)} (h : Okf f E) (hk : ∀ k ∈ E.map (·.1), k ≠ 0 → g k = f k) : Okf g E := by
  induction h with
  | root => exact .root
  | @snoc E k c _ h1 h2 h3 h4 ih =>
    refine .snoc (ih fun j hj h => hk j (by rw [List.map_append]; exact List.mem_append_left _ hj) h) h1 h2 h3 ?_
    rw [hk k (by simp) (by omega)]; exact h4
theorem Okf.has0 {f : Nat → Nat} {E : List (Nat × List Nat)} (h : Okf f E) : (0, []) ∈ E := by
  induction h with
  | root => simp
  | snoc _ _ _ _ _ ih => exact List.mem_append_left _ ih
theorem Okf.nodup {f : Nat → Nat} {E : List (Nat × List Nat)} (h : Okf f E) : (E.map (·.1)).Nodup := by
  induction h with
  | root => simp
  | @snoc E k c _ h1 _ _ _ ih =>
    rw [List.map_append, List.nodup_append]
    refine ⟨ih, by simp, fun a ha b hb => ?_⟩
    have : b = k := by simpa using hb
    subst this
    rintro rfl; exact h1 ha
theorem Okf.le {f : Nat → Nat} {E : List (Nat × List Nat)} (h : Okf f E) : ∀ k ∈ E.map (·.1), k ≤ 5 := by
  induction h with
  | root => intro k hk; simp at hk; omega
  | @snoc E k c _ _ _ h3 _ ih =>
    intro j hj
    rw [List.map_append] at hj
    rcases List.mem_append.mp hj with q | q
    · exact ih j q
    · have : j = k := by simpa using q
      omega
theorem ch_more {f : Nat → Nat} : ∀ (n m k : Nat), it f n k = 0 → n ≤ m → f 0 = 0 → ch f m k = ch f n k
  | 0, m, k, h, _, h0 => by
    have : k = 0 := h
    subst this
    cases m <;> rfl
  | n + 1, 0, k, _, hm, _ => by omega
  | n + 1, m + 1, k, h, hm, h0 => by
    unfold ch
    split
    · rfl
    · rw [ch_more n m (f k) h (by omega) h0]
theorem Okf.chain {f : Nat → Nat} (h0 : f 0 = 0) {E : List (Nat × List Nat)} (h : Okf f E) : ∀ k c, (k, c) ∈ E → ∃ n, it f n k = 0 ∧ c = ch f n k := by
  induction h with
  | root => intro k c h; simp at h; exact ⟨0, h.1, h.2⟩
  | @snoc E k c _ _ h2 _ h4 ih =>
    intro j d hj
    rcases List.mem_append.mp hj with q | q
    · exact ih j d q
    · have q : j = k ∧ d = c ++ [k] := by simpa using q
      obtain ⟨rfl, rfl⟩ := q
      obtain ⟨n, a, b⟩ := ih _ _ h4
      refine ⟨n + 1, a, ?_⟩
      unfold ch
      rw [if_neg (by omega), ← b]
theorem Okf.chain5 {f : Nat → Nat} (h0 : f 0 = 0) (hf : ∀ k, f k ≤ 5) {E : List (Nat × List Nat)} (h : Okf f E) {k : Nat} {c : List Nat} (hm : (k, c) ∈ E) : it f 5 k = 0 ∧ c = ch f 5 k := by
  obtain ⟨n, a, b⟩ := h.chain h0 k c hm
  have hk : k ≤ 5 := h.le k (List.mem_map.mpr ⟨_, hm, rfl⟩)
  have z : it f 5 k = 0 := by
    rcases Nat.eq_zero_or_pos (it f 5 k) with q | q
    · exact q
    · obtain ⟨d, hd, _, e⟩ := ring_of h0 hf hk (by omega)
      exfalso
      have h1 : it f n (it f 5 k) = 0 := by rw [← it_add, Nat.add_comm, it_add, a, it_zero h0]
      have h2 : it f (d * n) (it f 5 k) = it f 5 k := it_mul e n
      have h3 : d * n = n + (d * n - n) := by
        have : n ≤ d * n := Nat.le_mul_of_pos_left _ hd
        omega
      rw [h3, it_add, h1, it_zero h0] at h2
      omega
  refine ⟨z, ?_⟩
  rw [b]
  rcases Nat.le_total n 5 with q | q
  · exact (ch_more n 5 k a q h0).symm
  · exact ch_more 5 n k z q h0
theorem Okf.uniq {f : Nat → Nat} (h0 : f 0 = 0) (hf : ∀ k, f k ≤ 5) {E : List (Nat × List Nat)} (h : Okf f E) {k : Nat} {c d : List Nat} (h1 : (k, c) ∈ E) (h2 : (k, d) ∈ E) : c = d :=
  (h.chain5 h0 hf h1).2.trans (h.chain5 h0 hf h2).2.symm
structure WI (ps : List (List Nat)) (l : Nat → Nat) (E : List (Nat × List Nat)) (w : List Nat) : Prop where
  pops : Pops (arF ps) (fun _ => 0) l
  le : ∀ k, l k ≤ 4
  okf : Okf (top (arF ps) l) E
  wnd : w.Nodup
  wle : ∀ k ∈ w, 1 ≤ k ∧ k ≤ 5
  wno : ∀ k ∈ w, k ∉ E.map (·.1)
  lnk : lnk (top (arF ps) l) w
noncomputable def phi (l : Nat → Nat) (E : List (Nat × List Nat)) (w : List Nat) : Int := 32 - mu l - 2 * E.length - w.length
noncomputable def Done (E : List (Nat × List Nat)) (w : List Nat) : Prop := w = [] ∧ ∀ k, 1 ≤ k → k ≤ 5 → k ∈ E.map (·.1)
theorem WI.phi_ge {ps : List (List Nat)} {l : Nat → Nat} {E : List (Nat × List Nat)} {w : List Nat} (h : WI ps l E w) : 0 ≤ phi l E w := by
  have h1 := mu_le h.le
  have hnd : (E.map (·.1) ++ w).Nodup := by
    rw [List.nodup_append]
    exact ⟨h.okf.nodup, h.wnd, fun a ha b hb e => h.wno b hb (e ▸ ha)⟩
  have hle : (E.map (·.1) ++ w).length ≤ 6 := by
    rcases Nat.lt_or_ge 6 (E.map (·.1) ++ w).length with q | q
    · exfalso
      have hb : ∀ k ∈ E.map (·.1) ++ w, k ≤ 5 := fun k hk => by
        rcases List.mem_append.mp hk with z | z
        · exact h.okf.le k z
        · exact (h.wle k z).2
      obtain ⟨i, j, hij, hj, e⟩ := php 6 (fun i => (E.map (·.1) ++ w).getD i 0) fun i hi => by
        have hm : (E.map (·.1) ++ w).getD i 0 ∈ E.map (·.1) ++ w := by rw [List.getD_eq_getElem?_getD, List.getElem?_eq_getElem (by omega)]; exact List.getElem_mem _
        have := hb _ hm
        show (E.map (·.1) ++ w).getD i 0 < 6
        omega
      have e : (E.map (·.1) ++ w).getD i 0 = (E.map (·.1) ++ w).getD j 0 := e
      rw [List.getD_eq_getElem?_getD, List.getD_eq_getElem?_getD, List.getElem?_eq_getElem (show i < (E.map (·.1) ++ w).length by omega), List.getElem?_eq_getElem (show j < (E.map (·.1) ++ w).length by omega)] at e
      have e : (E.map (·.1) ++ w)[i]? = (E.map (·.1) ++ w)[j]? := by rw [List.getElem?_eq_getElem (show i < (E.map (·.1) ++ w).length by omega), List.getElem?_eq_getElem (show j < (E.map (·.1) ++ w).length by omega)]; exact congrArg some e
      have := (List.getElem?_inj (by omega) hnd).mp e
      omega
    · exact q
  rw [List.length_append, List.length_map] at hle
  have h0 : 1 ≤ E.length := List.length_pos_of_mem h.okf.has0
  unfold phi
  omega
end Mine.L2
end
section
set_option maxRecDepth 100000
open PySem PySem.W PyProof.Rows PySem.Calls
set_option autoImplicit false
namespace Mine.L2
noncomputable def wkB : Bl := (.cons (.ite (.cmp .eq (.var 0 ⟨262,11,262,15⟩) (.str "" 0 ⟨262,19,262,21⟩) ⟨262,11,262,21⟩) (.cons (.asg 33 ⟨263,12,263,16⟩ (.item (.call 5 ⟨263,19,263,41⟩ (.cons (.bi .sorted ⟨263,42,263,48⟩ (.cons (.slice (.var 28 ⟨263,49,263,54⟩) (.some (.int (1) 0 ⟨263,55,263,56⟩)) .none ⟨263,55,263,57⟩ ⟨263,49,263,58⟩) .nil) ⟨263,42,263,59⟩) (.cons (.bi .sorted ⟨263,61,263,67⟩ (.cons (.var 27 ⟨263,68,263,75⟩) .nil) ⟨263,61,263,76⟩) .nil)) ⟨263,19,263,77⟩) (.int (0) 0 ⟨263,78,263,79⟩) ⟨263,19,263,80⟩) ⟨263,12,263,80⟩) (.cons (.ite (.cmp .ne (.var 33 ⟨264,15,264,19⟩) (.list .nil ⟨264,23,264,25⟩) ⟨264,15,264,25⟩) (.cons (.unp [(17, ⟨265,16,265,20⟩), (18, ⟨265,22,265,27⟩)] 0 ⟨265,16,265,27⟩ (.bi .divmod ⟨265,30,265,36⟩ (.cons (.var 17 ⟨265,37,265,41⟩) (.cons (.bi .len ⟨265,43,265,46⟩ (.cons (.var 33 ⟨265,47,265,51⟩) .nil) ⟨265,43,265,52⟩) .nil)) ⟨265,30,265,53⟩) ⟨265,16,265,53⟩) (.cons (.asg 0 ⟨266,16,266,20⟩ (.call 2 ⟨266,23,266,27⟩ (.cons (.str "/" 0 ⟨266,28,266,31⟩) (.cons (.item (.var 33 ⟨266,33,266,37⟩) (.var 18 ⟨266,38,266,43⟩) ⟨266,33,266,44⟩) .nil)) ⟨266,23,266,45⟩) ⟨266,16,266,45⟩) .nil)) .nil ⟨264,12,266,45⟩) .nil)) (.cons (.asg 34 ⟨268,12,268,15⟩ (.slice (.meth .split (.var 0 ⟨268,18,268,22⟩) ⟨268,18,268,28⟩ (.cons (.str "/" 0 ⟨268,29,268,32⟩) .nil) ⟨268,18,268,33⟩) (.some (.int (1) 0 ⟨268,34,268,35⟩)) .none ⟨268,34,268,36⟩ ⟨268,18,268,37⟩) ⟨268,12,268,37⟩) (.cons (.asg 19 ⟨269,12,269,16⟩ (.item (.item (.var 29 ⟨269,19,269,24⟩) (.call 3 ⟨269,25,269,33⟩ (.cons (.var 0 ⟨269,34,269,38⟩) .nil) ⟨269,25,269,39⟩) ⟨269,19,269,40⟩) (.item (.var 23 ⟨269,41,269,45⟩) (.call 3 ⟨269,46,269,54⟩ (.cons (.var 0 ⟨269,55,269,59⟩) .nil) ⟨269,46,269,60⟩) ⟨269,41,269,61⟩) ⟨269,19,269,62⟩) ⟨269,12,269,62⟩) (.cons (.ite (.cmp .isIn (.var 19 ⟨270,15,270,19⟩) (.var 27 ⟨270,23,270,30⟩) ⟨270,15,270,30⟩) (.cons (.for (.one 31 ⟨271,20,271,24⟩) (.rev (.var 34 ⟨271,28,271,31⟩) 0 ⟨271,35,271,36⟩ ⟨271,34,271,36⟩ ⟨271,32,271,36⟩ ⟨271,28,271,37⟩) (.cons (.setI 27 ⟨272,20,272,27⟩ (.var 31 ⟨272,28,272,32⟩) ⟨272,20,272,33⟩ (.call 2 ⟨272,36,272,40⟩ (.cons (.item (.var 27 ⟨272,41,272,48⟩) (.var 19 ⟨272,49,272,53⟩) ⟨272,41,272,54⟩) (.cons (.var 31 ⟨272,56,272,60⟩) .nil)) ⟨272,36,272,61⟩) ⟨272,20,272,61⟩) (.cons (.asg 19 ⟨273,20,273,24⟩ (.var 31 ⟨273,27,273,31⟩) ⟨273,20,273,31⟩) .nil)) ⟨271,16,273,31⟩) (.cons (.asg 0 ⟨274,16,274,20⟩ (.str "" 0 ⟨274,23,274,25⟩) ⟨274,16,274,25⟩) .nil)) (.cons (.ite (.cmp .isIn (.var 19 ⟨275,17,275,21⟩) (.var 34 ⟨275,25,275,28⟩) ⟨275,17,275,28⟩) (.cons (.asg 24 ⟨276,16,276,20⟩ (.slice (.var 34 ⟨276,23,276,26⟩) (.some (.meth .index (.var 34 ⟨276,27,276,30⟩) ⟨276,27,276,36⟩ (.cons (.var 19 ⟨276,37,276,41⟩) .nil) ⟨276,27,276,42⟩)) .none ⟨276,27,276,43⟩ ⟨276,23,276,44⟩) ⟨276,16,276,44⟩) (.cons (.for (.one 31 ⟨277,20,277,24⟩) (.var 24 ⟨277,28,277,32⟩) (.cons (.augI 23 ⟨278,20,278,24⟩ (.var 31 ⟨278,25,278,29⟩) ⟨278,20,278,30⟩ .add (.int (1) 0 ⟨278,34,278,35⟩) ⟨278,20,278,35⟩) .nil) ⟨277,16,278,35⟩) (.cons (.for (.one 31 ⟨279,20,279,24⟩) (.slice (.var 24 ⟨279,28,279,32⟩) (.some (.int (1) 0 ⟨279,33,279,34⟩)) .none ⟨279,33,279,35⟩ ⟨279,28,279,36⟩) (.cons (.asg 0 ⟨280,20,280,24⟩ (.call 4 ⟨280,27,280,34⟩ (.cons (.var 0 ⟨280,35,280,39⟩) .nil) ⟨280,27,280,40⟩) ⟨280,20,280,40⟩) .nil) ⟨279,16,280,40⟩) .nil))) (.cons (.asg 0 ⟨282,16,282,20⟩ (.call 2 ⟨282,23,282,27⟩ (.cons (.var 0 ⟨282,28,282,32⟩) (.cons (.var 19 ⟨282,34,282,38⟩) .nil)) ⟨282,23,282,39⟩) ⟨282,16,282,39⟩) .nil) ⟨275,12,282,39⟩) .nil) ⟨270,12,282,39⟩) .nil))) ⟨262,8,282,39⟩) .nil)
open Ri Q
noncomputable def keysW (ns : List Str) (E : List (Nat × List Nat)) : List Str := E.map fun e => nmS ns e.1
noncomputable def fval (ns : List Str) (c : List Nat) : Str := if c = [] then slash else pathS (c.map (nmS ns))
noncomputable def valsW (ns : List Str) (E : List (Nat × List Nat)) : List D := E.map fun e => D.str (fval ns e.2)
noncomputable def goalL (ps : List (List Nat)) (ns : List Str) (k : Nat) : D := .lst ((((ps.getD (k - 1) []).map (nmS ns)) ++ [Str.ofString ""]).map .str)
noncomputable def goalsD (ps : List (List Nat)) (ns : List Str) : D := .dct ns [goalL ps ns 1, goalL ps ns 2, goalL ps ns 3, goalL ps ns 4, goalL ps ns 5]
structure WS (ps : List (List Nat)) (ns : List Str) (S : Sta) (l : Nat → Nat) (E : List (Nat × List Nat)) (w : List Nat) : Prop where
  h28 : S 28 = some (.fr (toldD ns))
  h29 : S 29 = some (.fr (goalsD ps ns))
  h17 : ∃ r : Nat, r < 10000000000 ∧ S 17 = some (.fr (.int r))
  h23 : S 23 = some (.di ns (lostD l))
  h27 : S 27 = some (.di (keysW ns E) (valsW ns E))
  h0 : S 0 = some (.fr (.str (pathS (w.map (nmS ns)))))
theorem leS_ltS {a b : Str} (h : leS a b) (hne : a ≠ b) : ltS a b = true := by
  cases q : ltS a b with
  | true => rfl
  | false => exact absurd (leS_antisymm h (by unfold leS; exact q)) hne
theorem rising_of : ∀ {xs : List Str}, xs.Pairwise leS → xs.Nodup → rising xs = true
  | [], _, _ => rfl
  | [_], _, _ => rfl
  | a :: b :: r, hp, hn => by
    rw [List.pairwise_cons] at hp
    rw [List.nodup_cons] at hn
    unfold rising
    rw [Bool.and_eq_true]
    exact ⟨leS_ltS (hp.1 b List.mem_cons_self) (fun e => hn.1 (e ▸ List.mem_cons_self)), rising_of hp.2 hn.2⟩
theorem rising_sort {xs : List Str} (hn : xs.Nodup) : rising (sortS xs) = true := rising_of (sortS_sorted xs) ((sortS_perm xs).nodup_iff.mpr hn)
theorem keysW_nodup {ns : List Str} (N : Names ns) {E : List (Nat × List Nat)} (hn : (E.map (·.1)).Nodup) (hle : ∀ k ∈ E.map (·.1), k ≤ 5) : (keysW ns E).Nodup := by
  have : keysW ns E = (E.map (·.1)).map (nmS ns) := by unfold keysW; rw [List.map_map]; rfl
  rw [this, List.nodup_iff_pairwise_ne, List.pairwise_map]
  refine List.Pairwise.imp_of_mem ?_ hn
  intro a b ha hb hne e
  exact hne (nmS_inj N (hle a ha) (hle b hb) e)
theorem keysW_mem {ns : List Str} (N : Names ns) {E : List (Nat × List Nat)} (hle : ∀ k ∈ E.map (·.1), k ≤ 5) {k : Nat} (hk : k ≤ 5) : nmS ns k ∈ keysW ns E ↔ k ∈ E.map (·.1) := by
  have : keysW ns E = (E.map (·.1)).map (nmS ns) := by unfold keysW; rw [List.map_map]; rfl
  rw [this, List.mem_map]
  constructor
  · rintro ⟨j, hj, e⟩
    rw [← nmS_inj N (hle j hj) hk e]; exact hj
  · exact fun h => ⟨k, h, rfl⟩
theorem mem_nmS {ns : List Str} (N : Names ns) {x : Str} (h : x ∈ ns) : ∃ k, 1 ≤ k ∧ k ≤ 5 ∧ x = nmS ns k := by
  obtain ⟨i, hi, e⟩ := List.getElem_of_mem h
  have hl := N.len
  refine ⟨i + 1, by omega, by omega, ?_⟩
  unfold nmS
  rw [List.getD_eq_getElem?_getD, List.getElem?_cons_succ, List.getElem?_eq_getElem hi, e]; rfl
theorem E_len {ps : List (List Nat)} {l : Nat → Nat} {E : List (Nat × List Nat)} {w : List Nat} (h : WI ps l E w) : E.length ≤ 6 ∧ w.length ≤ 5 ∧ 1 ≤ E.length := by
  have h1 := h.phi_ge
  have h2 : w.length ≤ 5 := short5 h.wnd h.wle
  have h0 : 1 ≤ E.length := List.length_pos_of_mem h.okf.has0
  have h3 : (0 : Int) ≤ mu l := by omega
  refine ⟨?_, h2, h0⟩
  rcases Nat.lt_or_ge 6 E.length with q | q
  · exfalso
    have hnd := h.okf.nodup
    have hl : (E.map (·.1)).length = E.length := List.length_map _
    obtain ⟨i, j, hij, hj, e⟩ := php 6 (fun i => (E.map (·.1)).getD i 0) fun i hi => by
      have hm : (E.map (·.1)).getD i 0 ∈ E.map (·.1) := by rw [List.getD_eq_getElem?_getD, List.getElem?_eq_getElem (by omega)]; exact List.getElem_mem _
      have := h.okf.le _ hm
      show (E.map (·.1)).getD i 0 < 6
      omega
    have e : (E.map (·.1)).getD i 0 = (E.map (·.1)).getD j 0 := e
    rw [List.getD_eq_getElem?_getD, List.getD_eq_getElem?_getD, List.getElem?_eq_getElem (show i < (E.map (·.1)).length by omega), List.getElem?_eq_getElem (show j < (E.map (·.1)).length by omega)] at e
    have e : (E.map (·.1))[i]? = (E.map (·.1))[j]? := by rw [List.getElem?_eq_getElem (show i < (E.map (·.1)).length by omega), List.getElem?_eq_getElem (show j < (E.map (·.1)).length by omega)]; exact congrArg some e
    have := (List.getElem?_inj (by omega) hnd).mp e
    omega
  · exact q
theorem g_left {ns : List Str} (N : Names ns) {E : List (Nat × List Nat)} (hn : (E.map (·.1)).Nodup) (hle : ∀ k ∈ E.map (·.1), k ≤ 5) (hE : E.length ≤ 6) :
    E5.g [.lst ((sortS ns).map .str), .lst ((sortS (keysW ns E)).map .str)] = some (.tup [.lst ((lessS (sortS ns) (sortS (keysW ns E))).map .str), .lst ((lessS (sortS (keysW ns E)) (sortS ns)).map .str)]) := by
  rw [show E5.g = sldG from rfl]
  unfold sldG
  dsimp only
  rw [strsOf_map, strsOf_map]
  dsimp only
  rw [if_pos]
  rw [Bool.and_eq_true, Bool.and_eq_true, decide_eq_true_eq]
  refine ⟨⟨rising_sort N.nd, rising_sort (keysW_nodup N hn hle)⟩, ?_, ?_⟩
  · rw [(sortS_perm ns).length_eq, N.len]; omega
  · rw [(sortS_perm _).length_eq]; unfold keysW; rw [List.length_map]; omega
theorem left_mem {ns : List Str} (N : Names ns) {E : List (Nat × List Nat)} (hle : ∀ k ∈ E.map (·.1), k ≤ 5) (x : Str) : x ∈ lessS (sortS ns) (sortS (keysW ns E)) ↔ ∃ k, 1 ≤ k ∧ k ≤ 5 ∧ k ∉ E.map (·.1) ∧ x = nmS ns k := by
  unfold lessS
  rw [List.mem_filter, (sortS_perm ns).mem_iff]
  have hc : ((!(sortS (keysW ns E)).contains x) = true) ↔ x ∉ keysW ns E := by
    rw [Bool.not_eq_true', ← Bool.not_eq_true, List.contains_iff_mem, (sortS_perm _).mem_iff]
  rw [hc]
  constructor
  · rintro ⟨h1, h2⟩
    obtain ⟨k, a, b, rfl⟩ := mem_nmS N h1
    exact ⟨k, a, b, fun q => h2 ((keysW_mem N hle b).mpr q), rfl⟩
  · rintro ⟨k, a, b, c, rfl⟩
    exact ⟨nmS_mem N a b, fun q => c ((keysW_mem N hle b).mp q)⟩
theorem left_len {ns : List Str} (N : Names ns) (E : List (Nat × List Nat)) : (lessS (sortS ns) (sortS (keysW ns E))).length ≤ 5 := by
  unfold lessS
  have := List.length_filter_le (fun x => !(sortS (keysW ns E)).contains x) (sortS ns)
  rw [(sortS_perm ns).length_eq, N.len] at this
  exact this
theorem turn_new {ps : List (List Nat)} {ns : List Str} (N : Names ns) (n : Nat) (S : Sta) (l : Nat → Nat) (E : List (Nat × List Nat)) (W : WI ps l E []) (H : WS ps ns S l E []) :
    ∃ S', exB nm fn FT15 sF_law_walked true (n + 40) wkB S = some (.next, S') ∧ ((∃ w', WS ps ns S' l E w' ∧ WI ps l E w' ∧ (Done E w' ∨ phi l E w' < phi l E [])) ) := by
  obtain ⟨h28, h29, ⟨r, hr, h17⟩, h23, h27, h0⟩ := H
  have r28 := Q.rho S 28 _ h28
  have r27 := Q.rho S 27 _ h27
  have r17 := Q.rho S 17 _ h17
  have r0 := Q.rho S 0 _ h0
  have hlen := E_len W
  have hsl : sliceD (toldD ns) (some (.int 1)) none = some (.lst (ns.map .str)) := by
    unfold toldD
    rw [Q.slL, Q.cutI, Q.cutN, if_pos (by decide)]
    have hl : ((Str.ofString "" :: ns).map D.str).length = 6 := by simp [N.len]
    dsimp only
    rw [hl, if_pos (by unfold listLine; omega)]
    have : List.take 6 ((Str.ofString "" :: ns).map D.str) = (Str.ofString "" :: ns).map D.str := List.take_of_length_le (by omega)
    rw [this]; rfl
  have hs1 : biD .sorted [.lst (ns.map .str)] = some (.lst ((sortS ns).map .str)) := by
    rw [Q.srtL, strsOf_map, Q.bind_some, if_pos (by rw [N.len]; omega)]
  have hs2 : biD .sorted [.dct (keysW ns E) (valsW ns E)] = some (.lst ((sortS (keysW ns E)).map .str)) := by
    rw [Q.srtD, if_pos (by unfold keysW; rw [List.length_map]; omega)]
  have hg := g_left N W.okf.nodup W.okf.le hlen.1
  have hi : ∀ a b : D, itemD (.tup [a, b]) (.int 0) = some a := fun _ _ => rfl
  have hp0 : (pathS [] == Str.ofString "") = true := by rw [pathS_nil]; exact beq_self_eq_true _
  have hlm := left_mem N (E := E) W.okf.le
  have hll := left_len N E
  generalize lessS (sortS ns) (sortS (keysW ns E)) = left at *
  have ht : evT nm fn FT15 (n + 38) sF_law_walked (.cmp .eq (.var 0 ⟨262,11,262,15⟩) (.str "" 0 ⟨262,19,262,21⟩) ⟨262,11,262,21⟩) true (rhoOf S) = some true := by
    simp only [Q.var, Q.str, Q.tcmp, Q.eqS, Q.d_fr, Q.o_fr, List.map_nil, r0, hp0]
  have s0 : exS nm fn FT15 sF_law_walked true (n + 37) (.asg 33 ⟨263,12,263,16⟩ (.item (.call 5 ⟨263,19,263,41⟩ (.cons (.bi .sorted ⟨263,42,263,48⟩ (.cons (.slice (.var 28 ⟨263,49,263,54⟩) (.some (.int (1) 0 ⟨263,55,263,56⟩)) .none ⟨263,55,263,57⟩ ⟨263,49,263,58⟩) .nil) ⟨263,42,263,59⟩) (.cons (.bi .sorted ⟨263,61,263,67⟩ (.cons (.var 27 ⟨263,68,263,75⟩) .nil) ⟨263,61,263,76⟩) .nil)) ⟨263,19,263,77⟩) (.int (0) 0 ⟨263,78,263,79⟩) ⟨263,19,263,80⟩) ⟨263,12,263,80⟩) S = some (.next, S.put 33 (.fr (.lst (left.map .str)))) := by
    simp only [Q.var, Q.int, Q.item, Q.slice, Q.call, Q.bi, Q.nil, Q.cons, Q.onone, Q.osome, Q.asg, Q.itV_ff, Q.unt_nil, Q.unt_cons, Q.d_fr, Q.d_di, Q.o_fr, Q.o_di, Q.map_some, Bool.true_or, List.map_cons, List.map_nil, List.length_cons, List.length_nil, Bool.not_true, Bool.not_false, Bool.and_self, decide_true, if_true, Q.sw_item, Nat.reduceAdd, Nat.reduceLT, and_self, Nat.lt_add_one, Nat.zero_lt_succ, Nat.zero_add, k_law_walked, r28, r27, hsl, hs1, hs2, ft15, hg, hi]
  generalize hS1 : S.put 33 (.fr (.lst (left.map .str))) = S1 at s0
  have h33 : S1 33 = some (.fr (.lst (left.map .str))) := by rw [← hS1, Q.put_get]
  have r33 := Q.rho S1 33 _ h33
  have o1 : Off [33] S S1 := by rw [← hS1]; exact Off.refl.put (by simp)
  have hll' : (left.map D.str).length ≤ 100000 := by rw [List.length_map]; omega
  by_cases hnil : left = []
  · subst hnil
    refine ⟨S1, ?_, [], ⟨by rw [o1 28 (by simp)]; exact h28, by rw [o1 29 (by simp)]; exact h29, ⟨r, hr, by rw [o1 17 (by simp)]; exact h17⟩, by rw [o1 23 (by simp)]; exact h23, by rw [o1 27 (by simp)]; exact h27, by rw [o1 0 (by simp)]; exact h0⟩, W, .inl ⟨rfl, fun k h1 h5 => ?_⟩⟩
    · unfold wkB; rw [Q.bcons, Q.sif, ht]
      dsimp only
      rw [Q.bcons, s0]
      dsimp only
      have e5 : isNil ((([] : List Str)).map D.str) = true := rfl
      have ht2 : evT nm fn FT15 (n + 35) sF_law_walked (.cmp .ne (.var 33 ⟨264,15,264,19⟩) (.list .nil ⟨264,23,264,25⟩) ⟨264,15,264,25⟩) true (rhoOf S1) = some false := by
        have e6 : isNil [] = true := rfl
        simp only [Q.var, Q.list, Q.nil, Q.tcmp, Q.neE, Q.unt_nil, Q.d_fr, Q.o_fr, List.map_nil, List.length_nil, Bool.not_true, if_true, Nat.reduceLeDiff, r33, e6]
      rw [Q.bcons, Q.sif, ht2]
      simp only [Q.bnil]
    · rcases Classical.em (k ∈ E.map (·.1)) with q | q
      · exact q
      · have := (hlm (nmS ns k)).mpr ⟨k, h1, h5, q, rfl⟩
        cases this
  · have hpos : 0 < left.length := List.length_pos_iff.mpr hnil
    have e5 : isNil (left.map D.str) = false := by
      cases left with
      | nil => exact absurd rfl hnil
      | cons a b => rfl
    have hlt : r % left.length < left.length := Nat.mod_lt _ hpos
    obtain ⟨k, hk1, hk5, hkE, hx⟩ := (hlm left[r % left.length]).mp (List.getElem_mem _)
    have hitem : itemD (.lst (left.map .str)) (.int ((r % left.length : Nat) : Int)) = some (.str (nmS ns k)) := by
      rw [Q.itL, Q.idxN _ _ (by rw [List.length_map]; exact hlt), Q.bind_some, if_pos (by unfold listLine; exact hll'), List.getElem?_map, List.getElem?_eq_getElem hlt, hx]; rfl
    have hNm := nmS_Nm N hk1 hk5
    have hjoin : E2.g [.str slash, .str (nmS ns k)] = some (.str (pathS [nmS ns k])) := by
      rw [g_join _ _ (by rw [slash_length]; omega) (by have := hNm.le; omega), join_one hNm]
    have ed : (r : Int).fdiv ((left.length : Nat) : Int) = ((r / left.length : Nat) : Int) := by
      rw [Int.fdiv_eq_ediv_of_nonneg _ (by omega)]; rfl
    have em : (r : Int).fmod ((left.length : Nat) : Int) = ((r % left.length : Nat) : Int) := by
      rw [Int.fmod_eq_emod_of_nonneg _ (by omega)]; rfl
    have hrs : r < 4611686018427387904 := by omega
    have hls : left.length < 4611686018427387904 := by omega
    have hl0 : ¬ ((left.length : Nat) : Int) = 0 := by omega
    have r17' := Q.rho S1 17 _ (show S1 17 = some (.fr (.int r)) by rw [o1 17 (by simp)]; exact h17)
    have esl : Str.ofString "/" = slash := rfl
    refine ⟨((S1.put 17 (.fr (.int ((r / left.length : Nat) : Int)))).put 18 (.fr (.int ((r % left.length : Nat) : Int)))).put 0 (.fr (.str (pathS [nmS ns k]))), ?_, [k], ⟨?_, ?_, ⟨r / left.length, Nat.lt_of_le_of_lt (Nat.div_le_self _ _) hr, ?_⟩, ?_, ?_, Q.put_get⟩, ?_, .inr ?_⟩
    · unfold wkB; rw [Q.bcons, Q.sif, ht]
      dsimp only
      rw [Q.bcons, s0]
      dsimp only
      have ht2 : evT nm fn FT15 (n + 35) sF_law_walked (.cmp .ne (.var 33 ⟨264,15,264,19⟩) (.list .nil ⟨264,23,264,25⟩) ⟨264,15,264,25⟩) true (rhoOf S1) = some true := by
        simp only [Q.var, Q.list, Q.nil, Q.tcmp, Q.neE, Q.unt_nil, Q.d_fr, Q.o_fr, List.map_nil, List.length_nil, Bool.not_true, Bool.not_false, if_true, Nat.reduceLeDiff, r33, e5]
      rw [Q.bcons, Q.sif, ht2]
      dsimp only
      have s1 : exS nm fn FT15 sF_law_walked true (n + 34) (.unp [(17, ⟨265,16,265,20⟩), (18, ⟨265,22,265,27⟩)] 0 ⟨265,16,265,27⟩ (.bi .divmod ⟨265,30,265,36⟩ (.cons (.var 17 ⟨265,37,265,41⟩) (.cons (.bi .len ⟨265,43,265,46⟩ (.cons (.var 33 ⟨265,47,265,51⟩) .nil) ⟨265,43,265,52⟩) .nil)) ⟨265,30,265,53⟩) ⟨265,16,265,53⟩) S1 = some (.next, (S1.put 17 (.fr (.int ((r / left.length : Nat) : Int)))).put 18 (.fr (.int ((r % left.length : Nat) : Int)))) := by
        simp only [Q.var, Q.bi, Q.nil, Q.cons, Q.unp, Q.lenL, Q.dvI, Q.d_fr, Q.o_fr, Q.map_some, Q.pm_nil, Q.pm_cons, listLine, List.nodup_cons, List.mem_cons, List.not_mem_nil, List.nodup_nil, or_self, List.map_cons, List.map_nil, List.length_cons, List.length_nil, List.all_cons, List.all_nil, Bool.and_self, decide_true, if_true, Q.nt_bi, Nat.reduceEqDiff, Nat.reduceAdd, Nat.reduceLT, and_self, ne_eq, not_false_eq_true, Nat.reducePow, Nat.lt_add_one, Nat.zero_lt_succ, Nat.zero_add, k_law_walked, r33, r17', List.length_map, ed, em, hrs, hls, hl0, Int.natAbs_natCast, Nat.le_trans hll (show 5 ≤ 100000 by omega)]
      rw [Q.bcons, s1]
      dsimp only
      simp only [Q.var, Q.str, Q.item, Q.call, Q.nil, Q.cons, Q.asg, Q.bnil, Q.bcons, Q.itV_ff, Q.unt_nil, Q.unt_cons, Q.rho_put, Q.d_fr, Q.o_fr, Q.map_some, Bool.true_or, List.map_cons, List.map_nil, List.length_cons, List.length_nil, Bool.not_true, Bool.not_false, Bool.and_self, decide_true, if_true, if_false, Q.sw_call, Nat.reduceEqDiff, Nat.reduceAdd, Nat.reduceLT, Nat.succ_ne_self, and_self, Nat.zero_lt_succ, Nat.zero_add, k_law_walked, r33, hitem, ft15, esl, hjoin]
    · simp only [put_at, reduceIte, Nat.reduceEqDiff]; rw [o1 28 (by simp)]; exact h28
    · simp only [put_at, reduceIte, Nat.reduceEqDiff]; rw [o1 29 (by simp)]; exact h29
    · simp only [put_at, reduceIte, Nat.reduceEqDiff]
    · simp only [put_at, reduceIte, Nat.reduceEqDiff]; rw [o1 23 (by simp)]; exact h23
    · simp only [put_at, reduceIte, Nat.reduceEqDiff]; rw [o1 27 (by simp)]; exact h27
    · exact ⟨W.pops, W.le, W.okf, by simp, fun j hj => by rw [List.mem_singleton.mp hj]; exact ⟨hk1, hk5⟩, fun j hj => by rw [List.mem_singleton.mp hj]; exact hkE, trivial⟩
    · unfold phi; simp only [List.length_cons, List.length_nil]; omega
end Mine.L2
end
section
set_option maxRecDepth 100000
open PySem PySem.W PyProof.Rows PySem.Calls
set_option autoImplicit false
namespace Mine.L2
open Ri Q
theorem look_get : ∀ {ks : List Str} {ds : List D} {i : Nat} {x : Str} {d : D}, ks.Nodup → ks[i]? = some x → ds[i]? = some d → lookD ks ds x = some d
  | [], _, i, x, d, _, h, _ => by simp at h
  | k :: ks, [], i, x, d, _, _, h => by simp at h
  | k :: ks, e :: ds, 0, x, d, _, h1, h2 => by
    simp at h1 h2; subst h1; subst h2
    show (if k = k then some e else _) = _
    rw [if_pos rfl]
  | k :: ks, e :: ds, i + 1, x, d, hn, h1, h2 => by
    rw [List.nodup_cons] at hn
    simp at h1 h2
    have hk : k ≠ x := by rintro rfl; exact hn.1 (List.mem_of_getElem? h1)
    show (if k = x then some e else lookD ks ds x) = _
    rw [if_neg hk]
    exact look_get hn.2 h1 h2
theorem nmS_get {ns : List Str} (N : Names ns) {k : Nat} (h1 : 1 ≤ k) (h5 : k ≤ 5) : ns[k - 1]? = some (nmS ns k) := by
  obtain ⟨m, rfl⟩ : ∃ m, k = m + 1 := ⟨k - 1, by omega⟩
  unfold nmS
  rw [List.getD_eq_getElem?_getD, List.getElem?_cons_succ, show m + 1 - 1 = m from rfl, List.getElem?_eq_getElem (show m < ns.length by rw [N.len]; omega)]
  rfl
theorem goals_item {ps : List (List Nat)} {ns : List Str} (N : Names ns) {k : Nat} (h1 : 1 ≤ k) (h5 : k ≤ 5) : itemD (goalsD ps ns) (.str (nmS ns k)) = some (goalL ps ns k) := by
  refine look_get N.nd (nmS_get N h1 h5) ?_
  have : k = 1 ∨ k = 2 ∨ k = 3 ∨ k = 4 ∨ k = 5 := by omega
  rcases this with rfl | rfl | rfl | rfl | rfl <;> rfl
theorem lost_item {ns : List Str} (N : Names ns) (l : Nat → Nat) {k : Nat} (h1 : 1 ≤ k) (h5 : k ≤ 5) : itemD (.dct ns (lostD l)) (.str (nmS ns k)) = some (.int (l k : Nat)) := by
  refine look_get N.nd (nmS_get N h1 h5) ?_
  have : k = 1 ∨ k = 2 ∨ k = 3 ∨ k = 4 ∨ k = 5 := by omega
  rcases this with rfl | rfl | rfl | rfl | rfl <;> rfl
theorem goal_item {ps : List (List Nat)} (P : Piles ps) {ns : List Str} {k j : Nat} (h1 : 1 ≤ k) (h5 : k ≤ 5) (hj : j ≤ 4) : itemD (goalL ps ns k) (.int (j : Nat)) = some (.str (nmS ns (arF ps k j))) := by
  obtain ⟨l, e, a, b⟩ := P.all (k - 1) (by omega)
  have e2 : ps.getD (k - 1) [] = l := by rw [List.getD_eq_getElem?_getD, e]; rfl
  unfold goalL arF
  rw [e2]
  have e3 : l.map (nmS ns) ++ [Str.ofString ""] = (l ++ [0]).map (nmS ns) := by rw [List.map_append]; rfl
  rw [e3]
  have hl : (((l ++ [0]).map (nmS ns)).map D.str).length = 5 := by simp [a]
  rw [Q.itL, Q.idxN _ _ (by rw [hl]; omega), Q.bind_some, if_pos (by rw [hl]; unfold listLine; omega), List.getElem?_map, List.getElem?_map, List.getD_eq_getElem?_getD, List.getElem?_eq_getElem (by simp [a]; omega)]
  rfl
theorem turn_mid {ps : List (List Nat)} (P : Piles ps) {ns : List Str} (N : Names ns) (n : Nat) (S : Sta) (l : Nat → Nat) (E : List (Nat × List Nat)) (u : List Nat) (v : Nat) (W : WI ps l E (u ++ [v])) (H : WS ps ns S l E (u ++ [v])) :
    evT nm fn FT15 (n + 38) sF_law_walked (.cmp .eq (.var 0 ⟨262,11,262,15⟩) (.str "" 0 ⟨262,19,262,21⟩) ⟨262,11,262,21⟩) true (rhoOf S) = some false ∧
    exS nm fn FT15 sF_law_walked true (n + 37) (.asg 34 ⟨268,12,268,15⟩ (.slice (.meth .split (.var 0 ⟨268,18,268,22⟩) ⟨268,18,268,28⟩ (.cons (.str "/" 0 ⟨268,29,268,32⟩) .nil) ⟨268,18,268,33⟩) (.some (.int (1) 0 ⟨268,34,268,35⟩)) .none ⟨268,34,268,36⟩ ⟨268,18,268,37⟩) ⟨268,12,268,37⟩) S = some (.next, S.put 34 (.fr (.lst (((u ++ [v]).map (nmS ns)).map .str)))) ∧
    exS nm fn FT15 sF_law_walked true (n + 36) (.asg 19 ⟨269,12,269,16⟩ (.item (.item (.var 29 ⟨269,19,269,24⟩) (.call 3 ⟨269,25,269,33⟩ (.cons (.var 0 ⟨269,34,269,38⟩) .nil) ⟨269,25,269,39⟩) ⟨269,19,269,40⟩) (.item (.var 23 ⟨269,41,269,45⟩) (.call 3 ⟨269,46,269,54⟩ (.cons (.var 0 ⟨269,55,269,59⟩) .nil) ⟨269,46,269,60⟩) ⟨269,41,269,61⟩) ⟨269,19,269,62⟩) ⟨269,12,269,62⟩) (S.put 34 (.fr (.lst (((u ++ [v]).map (nmS ns)).map .str)))) = some (.next, (S.put 34 (.fr (.lst (((u ++ [v]).map (nmS ns)).map .str)))).put 19 (.fr (.str (nmS ns (top (arF ps) l v))))) := by
  obtain ⟨h28, h29, ⟨r, hr, h17⟩, h23, h27, h0⟩ := H
  have r0 := Q.rho S 0 _ h0
  have r29 := Q.rho S 29 _ h29
  have r23 := Q.rho S 23 _ h23
  have hv := W.wle v (by simp)
  have hw5 := (E_len W).2.1
  have hNm : ∀ x ∈ (u ++ [v]).map (nmS ns), Nm x := fun x hx => by
    obtain ⟨k, hk, rfl⟩ := List.mem_map.mp hx
    exact nmS_Nm N (W.wle k hk).1 (W.wle k hk).2
  have hwne : (u ++ [v]).map (nmS ns) ≠ [] := by simp
  have hlen : (pathS ((u ++ [v]).map (nmS ns))).length ≤ 105 := by
    have := pathS_length hNm
    rw [List.length_map] at this; omega
  have hne : (pathS ((u ++ [v]).map (nmS ns)) == Str.ofString "") = false := beq_false_of_ne fun e => hwne (pathS_inj_nil.mp e)
  have hsp := split_pathS hwne hNm
  have hbase : baseS (pathS ((u ++ [v]).map (nmS ns))) = nmS ns v := by
    rw [List.map_append]; exact base_snoc (nmS_Nm N hv.1 hv.2)
  have hE3 : E3.g [.str (pathS ((u ++ [v]).map (nmS ns)))] = some (.str (nmS ns v)) := by rw [g_basename _ (by omega), hbase]
  generalize hp : pathS ((u ++ [v]).map (nmS ns)) = path at *
  have hl1 : path.length ≤ 100000 := by omega
  have esl : Str.ofString "/" = slash := rfl
  have hs0 : slash.length = 1 := rfl
  have hsl : sliceD (.lst ((Str.ofString "" :: (u ++ [v]).map (nmS ns)).map .str)) (some (.int 1)) none = some (.lst (((u ++ [v]).map (nmS ns)).map .str)) := by
    rw [Q.slL, Q.cutI, Q.cutN, if_pos (by decide)]
    have hl : ((Str.ofString "" :: (u ++ [v]).map (nmS ns)).map D.str).length = (u ++ [v]).length + 1 := by simp
    dsimp only
    rw [hl, if_pos (by unfold listLine; omega)]
    rw [List.take_of_length_le (by omega)]
    have : min (1 : Int).toNat ((u ++ [v]).length + 1) = 1 := by have : (1 : Int).toNat = 1 := rfl; omega
    rw [this]; rfl
  have h1 : ¬ (1 : Nat) = 0 := by omega
  have htop : top (arF ps) l v = arF ps v (l v) := by unfold top; rw [if_neg (by omega)]
  have i1 := goals_item (ps := ps) N hv.1 hv.2
  have i2 := lost_item N l hv.1 hv.2
  have i3 := goal_item P (ns := ns) hv.1 hv.2 (W.le v)
  refine ⟨?_, ?_, ?_⟩
  · simp only [Q.var, Q.str, Q.tcmp, Q.eqS, Q.d_fr, Q.o_fr, r0, hne]
  · simp only [Q.var, Q.int, Q.str, Q.slice, Q.meth, Q.nil, Q.cons, Q.onone, Q.osome, Q.asg, Q.msp, Q.itV_ff, Q.unt_nil, Q.unt_cons, Q.d_fr, Q.o_fr, Q.map_some, strLine, List.length_cons, List.length_nil, Bool.not_true, Bool.not_false, Bool.or_false, Bool.and_self, decide_true, if_true, beq_self_eq_true, Q.sw_slice, Q.ba_var, Nat.reduceLT, and_self, ne_eq, not_false_eq_true, Nat.lt_add_one, Nat.zero_add, k_law_walked, r0, esl, hl1, hs0, h1, hsp, hsl, List.map_cons (f := fun (x : V) => x.1), List.map_nil (f := fun (x : V) => x.1)]
  · rw [htop]
    simp only [Q.var, Q.item, Q.call, Q.nil, Q.cons, Q.asg, Q.itV_ff, Q.itV_i, Q.unt_nil, Q.unt_cons, Q.rho_put, Q.d_fr, Q.d_di, Q.o_fr, Q.o_di, Q.map_some, Bool.true_or, List.map_cons, List.map_nil, List.length_cons, List.length_nil, Bool.not_true, Bool.not_false, Bool.and_self, decide_true, if_true, if_false, Q.sw_item, Nat.reduceEqDiff, Nat.reduceLT, and_self, reduceCtorEq, Nat.lt_add_one, Nat.zero_add, k_law_walked, ft15, r0, r29, r23, hE3, i1, i2, i3]
end Mine.L2
end
section
set_option maxRecDepth 100000
open PySem PySem.W PyProof.Rows PySem.Calls
set_option autoImplicit false
namespace Mine.L2
open Ri Q
theorem W_len {ps : List (List Nat)} {l : Nat → Nat} {E : List (Nat × List Nat)} {w : List Nat} (W : WI ps l E w) {ns : List Str} (N : Names ns) : (∀ x ∈ w.map (nmS ns), Nm x) ∧ (pathS (w.map (nmS ns))).length ≤ 105 := by
  have hNm : ∀ x ∈ w.map (nmS ns), Nm x := fun x hx => by
    obtain ⟨k, hk, rfl⟩ := List.mem_map.mp hx
    exact nmS_Nm N (W.wle k hk).1 (W.wle k hk).2
  refine ⟨hNm, ?_⟩
  have := pathS_length hNm
  have h5 := (E_len W).2.1
  rw [List.length_map] at this; omega
theorem way_mem {ns : List Str} (N : Names ns) {w : List Nat} (hw : ∀ k ∈ w, 1 ≤ k ∧ k ≤ 5) {g : Nat} (hg : g ≤ 5) : ((w.map (nmS ns)).any fun y => y == nmS ns g) = decide (g ∈ w) := by
  rw [Bool.eq_iff_iff, List.any_eq_true, decide_eq_true_eq]
  constructor
  · rintro ⟨y, hy, e⟩
    obtain ⟨k, hk, rfl⟩ := List.mem_map.mp hy
    have := nmS_inj N (hw k hk).2 hg (eq_of_beq e)
    rw [← this]; exact hk
  · intro h
    exact ⟨nmS ns g, List.mem_map.mpr ⟨g, h, rfl⟩, beq_self_eq_true _⟩
theorem turn_far {ps : List (List Nat)} (P : Piles ps) {ns : List Str} (N : Names ns) (n : Nat) (S : Sta) (l : Nat → Nat) (E : List (Nat × List Nat)) (u : List Nat) (v : Nat) (W : WI ps l E (u ++ [v])) (H : WS ps ns S l E (u ++ [v]))
    (hE : top (arF ps) l v ∉ E.map (·.1)) (hw : top (arF ps) l v ∉ u ++ [v]) :
    ∃ S', exB nm fn FT15 sF_law_walked true (n + 40) wkB S = some (.next, S') ∧ WS ps ns S' l E (u ++ [v] ++ [top (arF ps) l v]) ∧ WI ps l E (u ++ [v] ++ [top (arF ps) l v]) ∧ phi l E (u ++ [v] ++ [top (arF ps) l v]) < phi l E (u ++ [v]) := by
  obtain ⟨m1, m2, m3⟩ := turn_mid P N n S l E u v W H
  have hg0 : top (arF ps) l v ≠ 0 := fun e => hE (by rw [e]; exact List.mem_map.mpr ⟨_, W.okf.has0, rfl⟩)
  have hg5 : top (arF ps) l v ≤ 5 := P.top_le l v
  have hsn := lnk_snoc W.lnk rfl
  generalize hg : top (arF ps) l v = g at *
  obtain ⟨h28, h29, ⟨r, hr, h17⟩, h23, h27, h0⟩ := H
  generalize hS2 : (S.put 34 (.fr (.lst (((u ++ [v]).map (nmS ns)).map .str)))).put 19 (.fr (.str (nmS ns g))) = S2 at *
  have o2 : Off [19, 34] S S2 := by rw [← hS2]; exact (Off.refl.put (by simp)).put (by simp)
  have r19 := Q.rho S2 19 _ (show S2 19 = some (.fr (.str (nmS ns g))) by rw [← hS2, Q.put_get])
  have r34 := Q.rho S2 34 _ (show S2 34 = some (.fr (.lst (((u ++ [v]).map (nmS ns)).map .str))) by rw [← hS2, put_at, if_neg (by omega), Q.put_get])
  have r27 := Q.rho S2 27 _ ((o2 27 (by simp)).trans h27)
  have r0 := Q.rho S2 0 _ ((o2 0 (by simp)).trans h0)
  obtain ⟨hNm, hlen⟩ := W_len W N
  have hwm := way_mem N W.wle hg5
  rw [decide_eq_false hw] at hwm
  have hkm : (keysW ns E).contains (nmS ns g) = false := by
    rw [← Bool.not_eq_true, List.contains_iff_mem, keysW_mem N W.okf.le hg5]; exact hE
  have hgN := nmS_Nm N (k := g) (by omega) hg5
  have hjoin : E2.g [.str (pathS ((u ++ [v]).map (nmS ns))), .str (nmS ns g)] = some (.str (pathS ((u ++ [v] ++ [g]).map (nmS ns)))) := by
    rw [g_join _ _ (by omega) (by have := hgN.le; omega), join_snoc (by simp) hNm hgN, List.map_append (l₂ := [g])]; rfl
  generalize hpp : pathS ((u ++ [v]).map (nmS ns)) = pp at *
  generalize hww : (u ++ [v]).map (nmS ns) = ww at *
  refine ⟨S2.put 0 (.fr (.str (pathS ((u ++ [v] ++ [g]).map (nmS ns))))), ?_, ⟨?_, ?_, ⟨r, hr, ?_⟩, ?_, ?_, Q.put_get⟩, ⟨W.pops, W.le, W.okf, ?_, fun k hk => ?_, fun k hk => ?_, hsn⟩, ?_⟩
  · have t1 : evT nm fn FT15 (n + 34) sF_law_walked (.cmp .isIn (.var 19 ⟨270,15,270,19⟩) (.var 27 ⟨270,23,270,30⟩) ⟨270,15,270,30⟩) true (rhoOf S2) = some false := by
      simp only [Q.var, Q.tcmp, Q.isIn, Q.inSD, Q.d_fr, Q.d_di, Q.o_fr, Q.o_di, r19, r27, hkm]
    have t2 : evT nm fn FT15 (n + 32) sF_law_walked (.cmp .isIn (.var 19 ⟨275,17,275,21⟩) (.var 34 ⟨275,25,275,28⟩) ⟨275,17,275,28⟩) true (rhoOf S2) = some false := by
      simp only [Q.var, Q.tcmp, Q.isIn, Q.inSL, Q.d_fr, Q.o_fr, Q.map_some, r19, r34, strsOf_map, hwm]
    unfold wkB; rw [Q.bcons, Q.sif, m1]
    dsimp only
    rw [Q.bcons, m2]
    dsimp only
    rw [Q.bcons, m3]
    dsimp only
    rw [Q.bcons, Q.sif, t1]
    dsimp only
    rw [Q.bcons, Q.sif, t2]
    dsimp only
    have s5 : exS nm fn FT15 sF_law_walked true (n + 31) (.asg 0 ⟨282,16,282,20⟩ (.call 2 ⟨282,23,282,27⟩ (.cons (.var 0 ⟨282,28,282,32⟩) (.cons (.var 19 ⟨282,34,282,38⟩) .nil)) ⟨282,23,282,39⟩) ⟨282,16,282,39⟩) S2 = some (.next, S2.put 0 (.fr (.str (pathS ((u ++ [v] ++ [g]).map (nmS ns)))))) := by
      simp only [Q.var, Q.call, Q.nil, Q.cons, Q.asg, Q.itV_ff, Q.unt_nil, Q.unt_cons, Q.d_fr, Q.o_fr, Q.map_some, Bool.true_or, List.map_cons, List.map_nil, List.length_cons, List.length_nil, Bool.not_true, Bool.not_false, Bool.and_self, decide_true, if_true, Q.sw_call, Nat.reduceAdd, Nat.reduceLT, and_self, Nat.zero_lt_succ, Nat.zero_add, k_law_walked, ft15, r0, r19, hjoin]
    rw [Q.bcons, s5]
    simp only [Q.bnil]
  · rw [put_at, if_neg (by omega), o2 28 (by simp)]; exact h28
  · rw [put_at, if_neg (by omega), o2 29 (by simp)]; exact h29
  · rw [put_at, if_neg (by omega), o2 17 (by simp)]; exact h17
  · rw [put_at, if_neg (by omega), o2 23 (by simp)]; exact h23
  · rw [put_at, if_neg (by omega), o2 27 (by simp)]; exact h27
  · rw [List.nodup_append]
    refine ⟨W.wnd, by simp, fun a ha b hb e => ?_⟩
    rw [List.mem_singleton.mp hb] at e
    exact hw (e ▸ ha)
  · rcases List.mem_append.mp hk with q | q
    · exact W.wle k q
    · rw [List.mem_singleton.mp q]; omega
  · rcases List.mem_append.mp hk with q | q
    · exact W.wno k q
    · rw [List.mem_singleton.mp q]; exact hE
  · unfold phi; rw [List.length_append (bs := [g])]; simp only [List.length_cons, List.length_nil]; omega
end Mine.L2
end
section
set_option maxRecDepth 100000
open PySem PySem.W PyProof.Rows PySem.Calls
set_option autoImplicit false
namespace Mine.L2
open Ri Q
noncomputable def back (f : Nat → Nat) : Nat → List Nat → Prop
  | _, [] => True
  | g, x :: r => f x = g ∧ back f x r
theorem back_of {f : Nat → Nat} : ∀ {t : List Nat} {g : Nat}, lnk f (t.reverse ++ [g]) → back f g t
  | [], _, _ => trivial
  | x :: r, g, h => by
    rw [List.reverse_cons] at h
    refine ⟨?_, back_of (lnk_left (b := [g]) h)⟩
    rw [List.append_assoc] at h
    exact (lnk_right (a := r.reverse) h).1
theorem Okf.cle {f : Nat → Nat} (hf : ∀ k, f k ≤ 5) (h0 : f 0 = 0) {E : List (Nat × List Nat)} (h : Okf f E) {k : Nat} {c : List Nat} (hm : (k, c) ∈ E) : (∀ j ∈ c, 1 ≤ j ∧ j ≤ 5) ∧ c.length ≤ 5 := by
  have e := (h.chain5 h0 hf hm).2
  have hk : k ≤ 5 := h.le k (List.mem_map.mpr ⟨_, hm, rfl⟩)
  rw [e]
  exact ⟨ch_mem hf 5 k hk, ch_len f 5 k⟩
theorem fval_len {ns : List Str} (N : Names ns) {c : List Nat} (hc : ∀ j ∈ c, 1 ≤ j ∧ j ≤ 5) (hl : c.length ≤ 5) : (fval ns c).length ≤ 105 := by
  unfold fval
  split
  · rw [slash_length]; omega
  · have := pathS_length (ns := c.map (nmS ns)) (fun x hx => by obtain ⟨j, hj, rfl⟩ := List.mem_map.mp hx; exact nmS_Nm N (hc j hj).1 (hc j hj).2)
    rw [List.length_map] at this; omega
theorem fval_snoc {ns : List Str} (N : Names ns) {c : List Nat} {x : Nat} (hc : ∀ j ∈ c, 1 ≤ j ∧ j ≤ 5) (hl : c.length ≤ 5) (h1 : 1 ≤ x) (h5 : x ≤ 5) : E2.g [.str (fval ns c), .str (nmS ns x)] = some (.str (fval ns (c ++ [x]))) := by
  have hx := nmS_Nm N h1 h5
  rw [g_join _ _ (by have := fval_len N hc hl; omega) (by have := hx.le; omega)]
  unfold fval
  rw [if_neg (by simp : ¬ c ++ [x] = [])]
  by_cases h : c = []
  · subst h; rw [if_pos rfl, join_one hx]; rfl
  · rw [if_neg h, join_snoc (by simpa using h) (fun y hy => by obtain ⟨j, hj, rfl⟩ := List.mem_map.mp hy; exact nmS_Nm N (hc j hj).1 (hc j hj).2) hx, List.map_append]; rfl
theorem home_loop {ns : List Str} (N : Names ns) {f : Nat → Nat} (h0 : f 0 = 0) (hf : ∀ k, f k ≤ 5) (n : Nat) : ∀ (t : List Nat) (g : Nat) (c : List Nat) (E : List (Nat × List Nat)) (S : Sta), Okf f E → (g, c) ∈ E → E.length + t.length ≤ 20 → back f g t → t.Nodup → (∀ k ∈ t, 1 ≤ k ∧ k ≤ 5 ∧ k ∉ E.map (·.1)) →
    S 27 = some (.di (keysW ns E) (valsW ns E)) → S 19 = some (.fr (.str (nmS ns g))) →
    ∃ S', loopF (exB nm fn FT15 sF_law_walked true (n + 20) (.cons (.setI 27 ⟨272,20,272,27⟩ (.var 31 ⟨272,28,272,32⟩) ⟨272,20,272,33⟩ (.call 2 ⟨272,36,272,40⟩ (.cons (.item (.var 27 ⟨272,41,272,48⟩) (.var 19 ⟨272,49,272,53⟩) ⟨272,41,272,54⟩) (.cons (.var 31 ⟨272,56,272,60⟩) .nil)) ⟨272,36,272,61⟩) ⟨272,20,272,61⟩) (.cons (.asg 19 ⟨273,20,273,24⟩ (.var 31 ⟨273,27,273,31⟩) ⟨273,20,273,31⟩) .nil))) (.one 31 ⟨271,20,271,24⟩) ((t.map (nmS ns)).map .str) S = some (.next, S') ∧ ((∃ E', S' 27 = some (.di (keysW ns E') (valsW ns E')) ∧ Okf f E' ∧ E'.length = E.length + t.length) ∧ Off [19, 27, 31] S S')
  | [], g, c, E, S, ho, hm, hl, hb, hn, hk, h27, h19 => ⟨S, rfl, ⟨E, h27, ho, rfl⟩, Off.refl⟩
  | x :: t, g, c, E, S, ho, hm, hl, hb, hn, hk, h27, h19 => by
    have r27 := Q.rho S 27 _ h27
    have r19 := Q.rho S 19 _ h19
    rw [List.nodup_cons] at hn
    obtain ⟨hx1, hx5, hxE⟩ := hk x List.mem_cons_self
    obtain ⟨hc, hcl⟩ := ho.cle hf h0 hm
    have hkn := keysW_nodup N ho.nodup ho.le
    obtain ⟨i, hi, ei⟩ := List.getElem_of_mem hm
    have hlook : itemD (.dct (keysW ns E) (valsW ns E)) (.str (nmS ns g)) = some (.str (fval ns c)) := by
      refine look_get hkn (i := i) ?_ ?_
      · unfold keysW; rw [List.getElem?_map, List.getElem?_eq_getElem hi, ei]; rfl
      · unfold valsW; rw [List.getElem?_map, List.getElem?_eq_getElem hi, ei]; rfl
    have hjoin := fval_snoc N hc hcl hx1 hx5
    have hst : storeD (keysW ns E) (valsW ns E) (nmS ns x) (.str (fval ns (c ++ [x]))) = (keysW ns (E ++ [(x, c ++ [x])]), valsW ns (E ++ [(x, c ++ [x])])) := by
      rw [store_new _ _ _ _ (fun q => hxE ((keysW_mem N ho.le hx5).mp q)) (by unfold keysW valsW; simp)]
      unfold keysW valsW
      rw [List.map_append, List.map_append]; rfl
    have hle : (keysW ns E).length ≤ 100000 := by unfold keysW; rw [List.length_map]; rw [List.length_cons] at hl; omega
    have body : ∃ S1, exB nm fn FT15 sF_law_walked true (n + 20) (.cons (.setI 27 ⟨272,20,272,27⟩ (.var 31 ⟨272,28,272,32⟩) ⟨272,20,272,33⟩ (.call 2 ⟨272,36,272,40⟩ (.cons (.item (.var 27 ⟨272,41,272,48⟩) (.var 19 ⟨272,49,272,53⟩) ⟨272,41,272,54⟩) (.cons (.var 31 ⟨272,56,272,60⟩) .nil)) ⟨272,36,272,61⟩) ⟨272,20,272,61⟩) (.cons (.asg 19 ⟨273,20,273,24⟩ (.var 31 ⟨273,27,273,31⟩) ⟨273,20,273,31⟩) .nil)) (S.put 31 (.fr (.str (nmS ns x)))) = some (.next, S1) ∧ ((S1 27 = some (.di (keysW ns (E ++ [(x, c ++ [x])])) (valsW ns (E ++ [(x, c ++ [x])]))) ∧ S1 19 = some (.fr (.str (nmS ns x)))) ∧ Off [19, 27, 31] S S1) := by
      apply Q.out
      · simp only [Q.var, Q.item, Q.call, Q.nil, Q.cons, Q.asg, Q.setI, Q.bnil, Q.bcons, Q.itV_ff, Q.itV_s, Q.unt_nil, Q.unt_cons, Q.rho_put, Q.put_at, Q.d_fr, Q.d_di, Q.o_fr, Q.o_di, Q.map_some, Q.ss_di, Q.at_s, listLine, Bool.true_or, List.map_cons, List.map_nil, List.length_cons, List.length_nil, Bool.not_true, Bool.not_false, Bool.and_self, decide_true, if_true, if_false, Q.sw_var, Nat.reduceEqDiff, Nat.reduceAdd, Nat.reduceLT, and_self, Nat.zero_lt_succ, Nat.zero_add, k_law_walked, ft15, h27, r27, r19, hlook, hjoin, hst, hle]
        rfl
      · refine ⟨⟨?_, Q.put_get⟩, ((Off.refl.put (by simp)).put (by simp)).put (by simp)⟩
        rw [put_at, if_neg (by omega), Q.put_get]
    obtain ⟨S1, b1, ⟨b2, b3⟩, o1⟩ := body
    have ho' : Okf f (E ++ [(x, c ++ [x])]) := .snoc ho hxE hx1 hx5 (by rw [hb.1]; exact hm)
    obtain ⟨S', w1, ⟨E', w2, w3, w4⟩, w5⟩ := home_loop N h0 hf n t x (c ++ [x]) (E ++ [(x, c ++ [x])]) S1 ho' (by simp) (by rw [List.length_append]; simp only [List.length_cons, List.length_nil] at hl ⊢; omega) hb.2 hn.2 (fun k hk' => by
      obtain ⟨a, b, d⟩ := hk k (List.mem_cons_of_mem _ hk')
      refine ⟨a, b, fun q => ?_⟩
      rw [List.map_append] at q
      rcases List.mem_append.mp q with q | q
      · exact d q
      · have : k = x := by simpa using q
        exact hn.1 (this ▸ hk')) b2 b3
    refine ⟨S', ?_, ⟨E', w2, w3, by rw [w4, List.length_append]; simp only [List.length_cons, List.length_nil]; omega⟩, o1.trans w5⟩
    show loopF _ _ (.str (nmS ns x) :: (t.map (nmS ns)).map .str) S = _
    rw [Q.lp_cons]
    dsimp only [Q.bs1]
    rw [b1]
    exact w1
theorem turn_home {ps : List (List Nat)} (P : Piles ps) {ns : List Str} (N : Names ns) (n : Nat) (S : Sta) (l : Nat → Nat) (E : List (Nat × List Nat)) (u : List Nat) (v : Nat) (W : WI ps l E (u ++ [v])) (H : WS ps ns S l E (u ++ [v]))
    (hE : top (arF ps) l v ∈ E.map (·.1)) :
    ∃ S', exB nm fn FT15 sF_law_walked true (n + 60) wkB S = some (.next, S') ∧ ∃ E', WS ps ns S' l E' [] ∧ WI ps l E' [] ∧ phi l E' [] < phi l E (u ++ [v]) := by
  obtain ⟨m1, m2, m3⟩ := turn_mid P N (n + 20) S l E u v W H
  have hg5 : top (arF ps) l v ≤ 5 := P.top_le l v
  have hsn := lnk_snoc W.lnk rfl
  generalize hg : top (arF ps) l v = g at *
  obtain ⟨h28, h29, ⟨r, hr, h17⟩, h23, h27, h0⟩ := H
  generalize hS2 : (S.put 34 (.fr (.lst (((u ++ [v]).map (nmS ns)).map .str)))).put 19 (.fr (.str (nmS ns g))) = S2 at *
  have o2 : Off [19, 34] S S2 := by rw [← hS2]; exact (Off.refl.put (by simp)).put (by simp)
  have h19 : S2 19 = some (.fr (.str (nmS ns g))) := by rw [← hS2, Q.put_get]
  have r19 := Q.rho S2 19 _ h19
  have r34 := Q.rho S2 34 _ (show S2 34 = some (.fr (.lst (((u ++ [v]).map (nmS ns)).map .str))) by rw [← hS2, put_at, if_neg (by omega), Q.put_get])
  have h27' := (o2 27 (by simp)).trans h27
  have r27 := Q.rho S2 27 _ h27'
  have hkm : (keysW ns E).contains (nmS ns g) = true := by
    rw [List.contains_iff_mem, keysW_mem N W.okf.le hg5]; exact hE
  obtain ⟨⟨g', c⟩, hm, hgg⟩ := List.mem_map.mp hE
  have hgg : g' = g := hgg
  subst hgg
  have hlens := E_len W
  have hb : back (top (arF ps) l) g' (u ++ [v]).reverse := back_of (by rw [List.reverse_reverse]; exact hsn)
  obtain ⟨S3, e3, ⟨E', q27, qo, ql⟩, o3⟩ := home_loop N (top0 _ l) (P.top_le l) (n + 32) (u ++ [v]).reverse g' c E S2 W.okf hm (by rw [List.length_reverse]; omega) hb ((List.reverse_perm _).nodup_iff.mpr W.wnd) (fun k hk => by
    have hk := List.mem_reverse.mp hk
    exact ⟨(W.wle k hk).1, (W.wle k hk).2, W.wno k hk⟩) h27' h19
  have hsrc : evSrc nm fn FT15 (n + 52) sF_law_walked (.rev (.var 34 ⟨271,28,271,31⟩) 0 ⟨271,35,271,36⟩ ⟨271,34,271,36⟩ ⟨271,32,271,36⟩ ⟨271,28,271,37⟩) true (rhoOf S2) = some ((((u ++ [v]).reverse).map (nmS ns)).map .str, false, false) := by
    have hl : (((u ++ [v]).map (nmS ns)).map D.str).length ≤ 100000 := by rw [List.length_map, List.length_map]; omega
    have hlr : (((u ++ [v]).map (nmS ns)).map D.str).reverse = (((u ++ [v]).reverse).map (nmS ns)).map D.str := by rw [List.map_reverse, List.map_reverse]
    have hl2 : ((((u ++ [v]).reverse).map (nmS ns)).map D.str).length ≤ 100000 := by rw [List.length_map, List.length_map, List.length_reverse]; omega
    generalize ((u ++ [v]).map (nmS ns)).map D.str = ww at *
    generalize (((u ++ [v]).reverse).map (nmS ns)).map D.str = www at *
    simp only [Q.var, Q.rev, Q.sr_l, Q.srev, Q.d_fr, Q.o_fr, listLine, if_true, r34, hl, hlr, hl2]
  refine ⟨S3.put 0 (.fr (.str (Str.ofString ""))), ?_, E', ⟨?_, ?_, ⟨r, hr, ?_⟩, ?_, ?_, ?_⟩, ⟨W.pops, W.le, qo, by simp, (fun k hk => (by cases hk)), (fun k hk => (by cases hk)), trivial⟩, ?_⟩
  · have t1 : evT nm fn FT15 (n + 54) sF_law_walked (.cmp .isIn (.var 19 ⟨270,15,270,19⟩) (.var 27 ⟨270,23,270,30⟩) ⟨270,15,270,30⟩) true (rhoOf S2) = some true := by
      simp only [Q.var, Q.tcmp, Q.isIn, Q.inSD, Q.d_fr, Q.d_di, Q.o_fr, Q.o_di, r19, r27, hkm]
    unfold wkB; rw [Q.bcons, Q.sif, m1]
    dsimp only
    rw [Q.bcons, m2]
    dsimp only
    rw [Q.bcons, m3]
    dsimp only
    rw [Q.bcons, Q.sif, t1]
    dsimp only
    have s5 : exS nm fn FT15 sF_law_walked true (n + 53) (.for (.one 31 ⟨271,20,271,24⟩) (.rev (.var 34 ⟨271,28,271,31⟩) 0 ⟨271,35,271,36⟩ ⟨271,34,271,36⟩ ⟨271,32,271,36⟩ ⟨271,28,271,37⟩) (.cons (.setI 27 ⟨272,20,272,27⟩ (.var 31 ⟨272,28,272,32⟩) ⟨272,20,272,33⟩ (.call 2 ⟨272,36,272,40⟩ (.cons (.item (.var 27 ⟨272,41,272,48⟩) (.var 19 ⟨272,49,272,53⟩) ⟨272,41,272,54⟩) (.cons (.var 31 ⟨272,56,272,60⟩) .nil)) ⟨272,36,272,61⟩) ⟨272,20,272,61⟩) (.cons (.asg 19 ⟨273,20,273,24⟩ (.var 31 ⟨273,27,273,31⟩) ⟨273,20,273,31⟩) .nil)) ⟨271,16,273,31⟩) S2 = some (.next, S3) := by
      rw [Q.sfor, hsrc]
      simp only [Q.tw1, Q.tv1, k_law_walked, List.all_cons, List.all_nil, Bool.and_true, beq_self_eq_true, if_true]
      exact e3
    rw [Q.bcons, s5]
    dsimp only
    simp only [Q.str, Q.asg, Q.bnil, Q.bcons, Bool.and_self, if_true, Q.sw_str, k_law_walked]
  · rw [put_at, if_neg (by omega), o3 28 (by simp), o2 28 (by simp)]; exact h28
  · rw [put_at, if_neg (by omega), o3 29 (by simp), o2 29 (by simp)]; exact h29
  · rw [put_at, if_neg (by omega), o3 17 (by simp), o2 17 (by simp)]; exact h17
  · rw [put_at, if_neg (by omega), o3 23 (by simp), o2 23 (by simp)]; exact h23
  · rw [put_at, if_neg (by omega)]; exact q27
  · rw [Q.put_get]; exact congrArg (fun x => some (Slot.fr (.str x))) pathS_nil.symm
  · unfold phi
    have : E'.length = E.length + (u.length + 1) := by rw [ql, List.length_reverse, List.length_append]; rfl
    rw [this, List.length_append]
    simp only [List.length_cons, List.length_nil]
    omega
end Mine.L2
end
section
set_option maxRecDepth 100000
open PySem PySem.W PyProof.Rows PySem.Calls
set_option autoImplicit false
namespace Mine.L2
open Ri Q
theorem store_old : ∀ {ks : List Str} {ds : List D} {i : Nat} {x : Str} (v : D), ks.Nodup → ks[i]? = some x → ks.length = ds.length → storeD ks ds x v = (ks, ds.set i v)
  | [], _, i, x, v, _, h, _ => by simp at h
  | k :: ks, [], i, x, v, _, _, h => by simp at h
  | k :: ks, e :: ds, 0, x, v, hn, h1, _ => by
    simp at h1; subst h1
    show (if k = k then (k :: ks, v :: ds) else _) = _
    rw [if_pos rfl]; rfl
  | k :: ks, e :: ds, i + 1, x, v, hn, h1, hl => by
    rw [List.nodup_cons] at hn
    simp at h1
    have hk : k ≠ x := by rintro rfl; exact hn.1 (List.mem_of_getElem? h1)
    show (if k = x then (k :: ks, v :: ds) else (k :: (storeD ks ds x v).1, e :: (storeD ks ds x v).2)) = _
    rw [if_neg hk, store_old v hn.2 h1 (by simpa using hl)]; rfl
theorem lost_set (l : Nat → Nat) {k v : Nat} (h1 : 1 ≤ k) (h5 : k ≤ 5) : (lostD l).set (k - 1) (.int (v : Nat)) = lostD (fun i => if i = k then v else l i) := by
  have : k = 1 ∨ k = 2 ∨ k = 3 ∨ k = 4 ∨ k = 5 := by omega
  rcases this with rfl | rfl | rfl | rfl | rfl <;> rfl
theorem mu_add : ∀ (rg : List Nat) (l l' : Nat → Nat), rg.Nodup → (∀ k ∈ rg, 1 ≤ k ∧ k ≤ 5) → (∀ k, l' k = l k + if k ∈ rg then 1 else 0) → mu l' = mu l + rg.length
  | [], l, l', _, _, h => by
    have : l' = l := by funext k; rw [h k, if_neg (by simp)]; rfl
    rw [this]; rfl
  | r :: rg, l, l', hn, hle, h => by
    rw [List.nodup_cons] at hn
    have ih := mu_add rg (fun k => if k = r then l k + 1 else l k) l' hn.2 (fun k hk => hle k (List.mem_cons_of_mem _ hk)) fun k => by
      rw [h k]
      by_cases e : k = r
      · subst e; rw [if_pos List.mem_cons_self, if_pos rfl, if_neg hn.1]
      · rw [if_neg e]
        by_cases q : k ∈ rg
        · rw [if_pos (List.mem_cons_of_mem _ q), if_pos q]
        · rw [if_neg (by simp [e, q]), if_neg q]
    have hr := hle r List.mem_cons_self
    have h1 : mu (fun k => if k = r then l k + 1 else l k) = mu l + 1 := by
      have : r = 1 ∨ r = 2 ∨ r = 3 ∨ r = 4 ∨ r = 5 := by omega
      unfold mu
      rcases this with rfl | rfl | rfl | rfl | rfl <;> simp <;> omega
    rw [ih, h1, List.length_cons]; omega
theorem popW_loop {ns : List Str} (N : Names ns) (n : Nat) : ∀ (rg : List Nat) (l : Nat → Nat) (S : Sta), rg.Nodup → (∀ k ∈ rg, 1 ≤ k ∧ k ≤ 5) → S 23 = some (.di ns (lostD l)) →
    ∃ S', loopF (exB nm fn FT15 sF_law_walked true (n + 20) (.cons (.augI 23 ⟨278,20,278,24⟩ (.var 31 ⟨278,25,278,29⟩) ⟨278,20,278,30⟩ .add (.int (1) 0 ⟨278,34,278,35⟩) ⟨278,20,278,35⟩) .nil)) (.one 31 ⟨277,20,277,24⟩) ((rg.map (nmS ns)).map .str) S = some (.next, S') ∧ ((∃ l', S' 23 = some (.di ns (lostD l')) ∧ ∀ k, l' k = l k + if k ∈ rg then 1 else 0) ∧ Off [23, 31] S S')
  | [], l, S, _, _, h => ⟨S, rfl, ⟨l, h, fun k => by simp⟩, Off.refl⟩
  | r :: rg, l, S, hn, hle, h => by
    rw [List.nodup_cons] at hn
    have hr := hle r List.mem_cons_self
    have e1 := lost_item N l hr.1 hr.2
    have e2 : ((l r : Nat) : Int) + 1 = ((l r + 1 : Nat) : Int) := rfl
    have e3 := store_old (ks := ns) (ds := lostD l) (.int ((l r + 1 : Nat) : Int)) N.nd (nmS_get N hr.1 hr.2) (by rw [N.len]; rfl)
    rw [lost_set l hr.1 hr.2] at e3
    have c1 : ns.length ≤ 100000 := by rw [N.len]; omega
    have body : ∃ S1, exB nm fn FT15 sF_law_walked true (n + 20) (.cons (.augI 23 ⟨278,20,278,24⟩ (.var 31 ⟨278,25,278,29⟩) ⟨278,20,278,30⟩ .add (.int (1) 0 ⟨278,34,278,35⟩) ⟨278,20,278,35⟩) .nil) (S.put 31 (.fr (.str (nmS ns r)))) = some (.next, S1) ∧ (S1 23 = some (.di ns (lostD fun i => if i = r then l r + 1 else l i)) ∧ Off [23, 31] S S1) := by
      apply Q.out
      · simp only [Q.var, Q.int, Q.augI, Q.bnil, Q.bcons, Q.addI, Q.rho_put, Q.put_at, Q.d_fr, Q.d_di, Q.o_fr, Q.o_di, Q.map_some, Q.ss_di, Q.at_i, Q.at_s, Q.mo_add, listLine, Bool.and_self, if_true, if_false, Nat.reduceEqDiff, and_self, h, e1, e2, e3, c1]
        rfl
      · exact ⟨Q.put_get, (Off.refl.put (by simp)).put (by simp)⟩
    obtain ⟨S1, b1, b2, b3⟩ := body
    obtain ⟨S', w1, ⟨l', w2, w3⟩, w4⟩ := popW_loop N n rg _ S1 hn.2 (fun k hk => hle k (List.mem_cons_of_mem _ hk)) b2
    refine ⟨S', ?_, ⟨l', w2, fun k => ?_⟩, b3.trans w4⟩
    · show loopF _ _ (.str (nmS ns r) :: (rg.map (nmS ns)).map .str) S = _
      rw [Q.lp_cons]
      dsimp only [Q.bs1]
      rw [b1]
      exact w1
    · rw [w3 k]
      by_cases hk : k = r
      · subst hk; rw [if_pos rfl, if_neg hn.1, if_pos List.mem_cons_self]
      · rw [if_neg hk]
        by_cases hm : k ∈ rg
        · rw [if_pos hm, if_pos (List.mem_cons_of_mem _ hm)]
        · rw [if_neg hm, if_neg (by simp [hk, hm])]
theorem dir_loop (n : Nat) : ∀ (m : Nat) (p t : List Str) (items : List D) (S : Sta), t.length = m → items.length = m → p ≠ [] → (p ++ t).length ≤ 20 → (∀ x ∈ p ++ t, Nm x) → S 0 = some (.fr (.str (pathS (p ++ t)))) →
    ∃ S', loopF (exB nm fn FT15 sF_law_walked true (n + 20) (.cons (.asg 0 ⟨280,20,280,24⟩ (.call 4 ⟨280,27,280,34⟩ (.cons (.var 0 ⟨280,35,280,39⟩) .nil) ⟨280,27,280,40⟩) ⟨280,20,280,40⟩) .nil)) (.one 31 ⟨279,20,279,24⟩) items S = some (.next, S') ∧ (S' 0 = some (.fr (.str (pathS p))) ∧ Off [0, 31] S S')
  | 0, p, t, items, S, ht, hi, _, _, _, h => by
    rw [List.length_eq_zero_iff] at ht hi
    subst ht; subst hi
    exact ⟨S, rfl, by rw [List.append_nil] at h; exact h, Off.refl⟩
  | m + 1, p, t, items, S, ht, hi, hp, hl, hN, h => by
    obtain ⟨it, items, rfl⟩ := List.exists_cons_of_length_eq_add_one hi
    obtain ⟨t', x, rfl⟩ : ∃ r x, t = r ++ [x] := ⟨_, _, (List.dropLast_concat_getLast (l := t) (by intro e; rw [e] at ht; simp at ht)).symm⟩
    rw [← List.append_assoc] at h hl hN
    have hx := hN x (by simp)
    have hNp : ∀ y ∈ p ++ t', Nm y := fun y hy => hN y (List.mem_append_left _ hy)
    have hlen : (pathS (p ++ t' ++ [x])).length ≤ 420 := by have := pathS_length hN; omega
    have hd : E4.g [.str (pathS (p ++ t' ++ [x]))] = some (.str (pathS (p ++ t'))) := by
      rw [g_dirname _ (by omega), dir_snoc (by simp [hp]) hNp hx]
    have r0 := Q.rho S 0 _ h
    have body : ∃ S1, exB nm fn FT15 sF_law_walked true (n + 20) (.cons (.asg 0 ⟨280,20,280,24⟩ (.call 4 ⟨280,27,280,34⟩ (.cons (.var 0 ⟨280,35,280,39⟩) .nil) ⟨280,27,280,40⟩) ⟨280,20,280,40⟩) .nil) (S.put 31 (.fr it)) = some (.next, S1) ∧ (S1 0 = some (.fr (.str (pathS (p ++ t')))) ∧ Off [0, 31] S S1) := by
      apply Q.out
      · simp only [Q.var, Q.call, Q.nil, Q.cons, Q.asg, Q.bnil, Q.bcons, Q.itV_ff, Q.unt_nil, Q.unt_cons, Q.rho_put, Q.d_fr, Q.o_fr, Q.map_some, Bool.true_or, List.map_cons, List.map_nil, List.length_cons, List.length_nil, Bool.not_true, Bool.not_false, Bool.and_self, decide_true, if_true, if_false, Q.sw_call, Nat.reduceLT, and_self, reduceCtorEq, Nat.lt_add_one, Nat.zero_add, k_law_walked, ft15, r0, hd]
        rfl
      · exact ⟨Q.put_get, (Off.refl.put (by simp)).put (by simp)⟩
    obtain ⟨S1, b1, b2, b3⟩ := body
    obtain ⟨S', w1, w2, w3⟩ := dir_loop n m p t' items S1 (by simpa using ht) (by simpa using hi) hp (by rw [List.length_append] at hl; simp only [List.length_cons, List.length_nil] at hl; omega) hNp b2
    refine ⟨S', ?_, w2, b3.trans w3⟩
    rw [Q.lp_cons]
    dsimp only [Q.bs1]
    rw [b1]
    exact w1
end Mine.L2
end
section
set_option maxRecDepth 100000
open PySem PySem.W PyProof.Rows PySem.Calls
set_option autoImplicit false
namespace Mine.L2
open Ri Q
theorem turn_ring {ps : List (List Nat)} (P : Piles ps) {ns : List Str} (N : Names ns) (n : Nat) (S : Sta) (l : Nat → Nat) (E : List (Nat × List Nat)) (u : List Nat) (v : Nat) (W : WI ps l E (u ++ [v])) (H : WS ps ns S l E (u ++ [v]))
    (hE : top (arF ps) l v ∉ E.map (·.1)) (hw : top (arF ps) l v ∈ u ++ [v]) :
    ∃ S', exB nm fn FT15 sF_law_walked true (n + 70) wkB S = some (.next, S') ∧ ∃ l' w', WS ps ns S' l' E w' ∧ WI ps l' E w' ∧ phi l' E w' < phi l E (u ++ [v]) := by
  obtain ⟨m1, m2, m3⟩ := turn_mid P N (n + 30) S l E u v W H
  have hg0 : top (arF ps) l v ≠ 0 := fun e => hE (by rw [e]; exact List.mem_map.mpr ⟨_, W.okf.has0, rfl⟩)
  have hg5 : top (arF ps) l v ≤ 5 := P.top_le l v
  have hlens := E_len W
  have htv : top (arF ps) l v = top (arF ps) l v := rfl
  generalize hg : top (arF ps) l v = g at hw hE hg0 hg5 m3
  obtain ⟨a, b, hab⟩ := List.append_of_mem hw
  have hlast : (g :: b).getLast (by simp) = v := by
    have h1 : (u ++ [v]).getLast (by simp) = v := List.getLast_concat
    have h2 : (a ++ g :: b).getLast (by simp) = (g :: b).getLast (by simp) := List.getLast_append_of_ne_nil _ (by simp)
    rw [← h2, ← h1]
    congr 1
    exact hab.symm
  rw [hab] at W H hlens m2 m3 ⊢
  have wnd := W.wnd
  rw [List.nodup_append] at wnd
  have hga : g ∉ a := fun q => wnd.2.2 g q g List.mem_cons_self rfl
  have hR : RingList (top (arF ps) l) (g :: b) := ring_lnk (top0 _ l) (P.top_le l) wnd.2.1 (lnk_right W.lnk) (by rw [hlast]; exact hg) hg0
  obtain ⟨h28, h29, ⟨r, hr, h17⟩, h23, h27, h0⟩ := H
  obtain ⟨hNm, hlen⟩ := W_len W N
  generalize hS2 : (S.put 34 (.fr (.lst (((a ++ g :: b).map (nmS ns)).map .str)))).put 19 (.fr (.str (nmS ns g))) = S2 at *
  have o2 : Off [19, 34] S S2 := by rw [← hS2]; exact (Off.refl.put (by decide)).put (by decide)
  have r19 := Q.rho S2 19 _ (show S2 19 = some (.fr (.str (nmS ns g))) by rw [← hS2, Q.put_get])
  have r34 := Q.rho S2 34 _ (show S2 34 = some (.fr (.lst (((a ++ g :: b).map (nmS ns)).map .str))) by rw [← hS2, put_at, if_neg (by decide), Q.put_get])
  have r27 := Q.rho S2 27 _ ((o2 27 (by decide)).trans h27)
  have hkm : (keysW ns E).contains (nmS ns g) = false := by
    rw [← Bool.not_eq_true, List.contains_iff_mem, keysW_mem N W.okf.le hg5]; exact hE
  have hwm := way_mem N W.wle hg5
  rw [decide_eq_true (show g ∈ a ++ g :: b by simp)] at hwm
  have hmem : nmS ns g ∈ (a ++ g :: b).map (nmS ns) := List.mem_map.mpr ⟨g, by simp, rfl⟩
  have hidx : ((a ++ g :: b).map (nmS ns)).idxOf (nmS ns g) = a.length := by
    have hna : nmS ns g ∉ a.map (nmS ns) := fun q => by
      obtain ⟨k, hk, e⟩ := List.mem_map.mp q
      have := nmS_inj N (W.wle k (List.mem_append_left _ hk)).2 hg5 e
      exact hga (this ▸ hk)
    rw [List.map_append, List.map_cons, List.idxOf_append, if_neg hna, List.idxOf_cons_self, List.length_map, Nat.zero_add]
  have hmix : meD .index (.lst (((a ++ g :: b).map (nmS ns)).map .str)) [.str (nmS ns g)] = some (.int (a.length : Nat)) := by
    rw [Q.mix, strsOf_map, Q.bind_some, if_pos ⟨by rw [List.length_map]; omega, hmem⟩, hidx]
  have hwl : (((a ++ g :: b).map (nmS ns)).map D.str).length = (a ++ g :: b).length := by rw [List.length_map, List.length_map]
  have hsl : sliceD (.lst (((a ++ g :: b).map (nmS ns)).map .str)) (some (.int (a.length : Nat))) none = some (.lst (((g :: b).map (nmS ns)).map .str)) := by
    rw [Q.slL, Q.cutI, Q.cutN, if_pos (by omega)]
    dsimp only
    rw [hwl, if_pos (by unfold listLine; omega), List.take_of_length_le (by rw [hwl]; exact Nat.le_refl _)]
    have : min ((a.length : Nat) : Int).toNat (a ++ g :: b).length = a.length := by rw [Int.toNat_natCast, List.length_append]; omega
    rw [this, List.map_append, List.map_append, List.drop_left' (by simp)]
  have s4 : exS nm fn FT15 sF_law_walked true (n + 61) (.asg 24 ⟨276,16,276,20⟩ (.slice (.var 34 ⟨276,23,276,26⟩) (.some (.meth .index (.var 34 ⟨276,27,276,30⟩) ⟨276,27,276,36⟩ (.cons (.var 19 ⟨276,37,276,41⟩) .nil) ⟨276,27,276,42⟩)) .none ⟨276,27,276,43⟩ ⟨276,23,276,44⟩) ⟨276,16,276,44⟩) S2 = some (.next, S2.put 24 (.fr (.lst (((g :: b).map (nmS ns)).map .str)))) := by
    generalize ((a ++ g :: b).map (nmS ns)).map D.str = ww at *
    generalize ((g :: b).map (nmS ns)).map D.str = www at *
    simp only [Q.var, Q.slice, Q.meth, Q.nil, Q.cons, Q.onone, Q.osome, Q.asg, Q.itV_ff, Q.unt_nil, Q.unt_cons, Q.d_fr, Q.o_fr, Q.map_some, List.map_cons, List.map_nil, List.length_cons, List.length_nil, Bool.not_true, Bool.not_false, Bool.or_false, Bool.and_self, decide_true, if_true, beq_self_eq_true, Q.sw_slice, Q.ba_var, Nat.reduceLT, and_self, Nat.lt_add_one, Nat.zero_add, k_law_walked, r34, r19, hmix, hsl]
  generalize hS4 : S2.put 24 (.fr (.lst (((g :: b).map (nmS ns)).map .str))) = S4 at s4
  have o4 : Off [19, 24, 34] S S4 := by rw [← hS4]; exact (o2.mono (by decide)).put (by decide)
  have r24 := Q.rho S4 24 _ (show S4 24 = some (.fr (.lst (((g :: b).map (nmS ns)).map .str))) by rw [← hS4, Q.put_get])
  obtain ⟨S5, e5, ⟨l', q23, ql⟩, o5⟩ := popW_loop N (n + 39) (g :: b) l S4 wnd.2.1 (fun k hk => W.wle k (List.mem_append_right _ hk)) (by rw [o4 23 (by decide)]; exact h23)
  have hrl : (((g :: b).map (nmS ns)).map D.str).length ≤ 100000 := by rw [List.length_map, List.length_map]; rw [List.length_append] at hlens; omega
  have s5 : exS nm fn FT15 sF_law_walked true (n + 60) (.for (.one 31 ⟨277,20,277,24⟩) (.var 24 ⟨277,28,277,32⟩) (.cons (.augI 23 ⟨278,20,278,24⟩ (.var 31 ⟨278,25,278,29⟩) ⟨278,20,278,30⟩ .add (.int (1) 0 ⟨278,34,278,35⟩) ⟨278,20,278,35⟩) .nil) ⟨277,16,278,35⟩) S4 = some (.next, S5) := by
    have hsrc : evSrc nm fn FT15 (n + 59) sF_law_walked (.var 24 ⟨277,28,277,32⟩) true (rhoOf S4) = some (((g :: b).map (nmS ns)).map .str, false, false) := by
      generalize ((g :: b).map (nmS ns)).map D.str = www at *
      simp only [Q.var, Q.sr_l, Q.svar, Q.d_fr, Q.o_fr, listLine, if_true, r24, hrl]
    rw [Q.sfor, hsrc]
    simp only [Q.tw1, Q.tv1, k_law_walked, List.all_cons, List.all_nil, Bool.and_true, beq_self_eq_true, if_true]
    exact e5
  have o45 : Off [19, 23, 24, 31, 34] S S5 := (o4.mono (by decide)).trans (o5.mono (by decide))
  have r24' := Q.rho S5 24 _ (show S5 24 = some (.fr (.lst (((g :: b).map (nmS ns)).map .str))) by rw [o5 24 (by decide), ← hS4, Q.put_get])
  have hp0 : S5 0 = some (.fr (.str (pathS ((a ++ [g]).map (nmS ns) ++ b.map (nmS ns))))) := by
    rw [o45 0 (by decide), h0, ← List.map_append, List.append_assoc]; rfl
  obtain ⟨S6, e6, p0, o6⟩ := dir_loop (n + 38) b.length ((a ++ [g]).map (nmS ns)) (b.map (nmS ns)) ((b.map (nmS ns)).map .str) S5 (by simp) (by simp) (by simp)
    (by rw [← List.map_append, List.append_assoc, List.length_map]; show (a ++ g :: b).length ≤ 20; omega) (by rw [← List.map_append, List.append_assoc]; exact hNm) hp0
  have s6 : exS nm fn FT15 sF_law_walked true (n + 59) (.for (.one 31 ⟨279,20,279,24⟩) (.slice (.var 24 ⟨279,28,279,32⟩) (.some (.int (1) 0 ⟨279,33,279,34⟩)) .none ⟨279,33,279,35⟩ ⟨279,28,279,36⟩) (.cons (.asg 0 ⟨280,20,280,24⟩ (.call 4 ⟨280,27,280,34⟩ (.cons (.var 0 ⟨280,35,280,39⟩) .nil) ⟨280,27,280,40⟩) ⟨280,20,280,40⟩) .nil) ⟨279,16,280,40⟩) S5 = some (.next, S6) := by
    have hsrc : evSrc nm fn FT15 (n + 58) sF_law_walked (.slice (.var 24 ⟨279,28,279,32⟩) (.some (.int (1) 0 ⟨279,33,279,34⟩)) .none ⟨279,33,279,35⟩ ⟨279,28,279,36⟩) true (rhoOf S5) = some ((b.map (nmS ns)).map .str, false, false) := by
      have hs : sliceD (.lst (((g :: b).map (nmS ns)).map .str)) (some (.int 1)) none = some (.lst ((b.map (nmS ns)).map .str)) := by
        rw [Q.slL, Q.cutI, Q.cutN, if_pos (by decide)]
        dsimp only
        rw [if_pos (by unfold listLine; exact hrl), List.take_of_length_le (Nat.le_refl _)]
        have : min (1 : Int).toNat (((g :: b).map (nmS ns)).map D.str).length = 1 := by have : (1 : Int).toNat = 1 := rfl; rw [List.length_map, List.length_map, List.length_cons]; omega
        rw [this]; rfl
      have hbl : ((b.map (nmS ns)).map D.str).length ≤ 100000 := by rw [List.length_map, List.length_map]; rw [List.length_append, List.length_cons] at hlens; omega
      generalize ((g :: b).map (nmS ns)).map D.str = www at *
      generalize (b.map (nmS ns)).map D.str = bb at *
      simp only [Q.var, Q.int, Q.slice, Q.onone, Q.osome, Q.sr_l, Q.sslice, Q.itV_ff, Q.d_fr, Q.o_fr, Q.map_some, listLine, if_true, r24', hs, hbl]
    rw [Q.sfor, hsrc]
    simp only [Q.tw1, Q.tv1, k_law_walked, List.all_cons, List.all_nil, Bool.and_true, beq_self_eq_true, if_true]
    exact e6
  have o16 : Off [0, 19, 23, 24, 31, 34] S S6 := (o45.mono (by decide)).trans (o6.mono (by decide))
  have hmu := mu_add (g :: b) l l' wnd.2.1 (fun k hk => W.wle k (List.mem_append_right _ hk)) ql
  have hsame : ∀ k, k ∉ g :: b → top (arF ps) l' k = top (arF ps) l k := fun k hk => by
    have : l' k = l k := by rw [ql k, if_neg hk]; rfl
    unfold top; rw [this]
  refine ⟨S6, ?_, l', a ++ [g], ⟨?_, ?_, ⟨r, hr, ?_⟩, ?_, ?_, p0⟩, ⟨W.pops.snoc (pop_of hR ql), fun k => ?_, W.okf.congr fun k hk _ => hsame k fun q => W.wno k (List.mem_append_right _ q) hk, ?_, fun k hk => ?_, fun k hk => ?_, ?_⟩, ?_⟩
  · have t1 : evT nm fn FT15 (n + 64) sF_law_walked (.cmp .isIn (.var 19 ⟨270,15,270,19⟩) (.var 27 ⟨270,23,270,30⟩) ⟨270,15,270,30⟩) true (rhoOf S2) = some false := by
      simp only [Q.var, Q.tcmp, Q.isIn, Q.inSD, Q.d_fr, Q.d_di, Q.o_fr, Q.o_di, r19, r27, hkm]
    have t2 : evT nm fn FT15 (n + 62) sF_law_walked (.cmp .isIn (.var 19 ⟨275,17,275,21⟩) (.var 34 ⟨275,25,275,28⟩) ⟨275,17,275,28⟩) true (rhoOf S2) = some true := by
      generalize (a ++ g :: b).map (nmS ns) = ww at *
      simp only [Q.var, Q.tcmp, Q.isIn, Q.inSL, Q.d_fr, Q.o_fr, Q.map_some, r19, r34, strsOf_map, hwm]
    unfold wkB; rw [Q.bcons, Q.sif, m1]
    dsimp only
    rw [Q.bcons, m2]
    dsimp only
    rw [Q.bcons, m3]
    dsimp only
    rw [Q.bcons, Q.sif, t1]
    dsimp only
    rw [Q.bcons, Q.sif, t2]
    dsimp only
    rw [Q.bcons, s4]
    dsimp only
    rw [Q.bcons, s5]
    dsimp only
    rw [Q.bcons, s6]
    simp only [Q.bnil]
  · rw [o16 28 (by decide)]; exact h28
  · rw [o16 29 (by decide)]; exact h29
  · rw [o16 17 (by decide)]; exact h17
  · rw [o6 23 (by decide)]; exact q23
  · rw [o16 27 (by decide)]; exact h27
  · rw [ql k]
    split
    · rename_i q; have := lt4_of P hR q; omega
    · have := W.le k; omega
  · rw [List.nodup_append]
    exact ⟨wnd.1, by simp, fun x hx y hy e => hga (by rw [List.mem_singleton.mp hy] at e; exact e ▸ hx)⟩
  · exact W.wle k (by rcases List.mem_append.mp hk with q | q; exact List.mem_append_left _ q; rw [List.mem_singleton.mp q]; simp)
  · exact W.wno k (by rcases List.mem_append.mp hk with q | q; exact List.mem_append_left _ q; rw [List.mem_singleton.mp q]; simp)
  · refine lnk_congr (f := top (arF ps) l) (fun k hk => hsame k fun q => wnd.2.2 k hk k q rfl) ?_
    have := W.lnk
    rw [show a ++ g :: b = (a ++ [g]) ++ b by simp] at this
    exact lnk_left this
  · unfold phi
    rw [hmu, List.length_append, List.length_append]
    simp only [List.length_cons, List.length_nil]
    omega
end Mine.L2
end
section
set_option maxRecDepth 100000
open PySem PySem.W PyProof.Rows PySem.Calls
set_option autoImplicit false
namespace Mine.L2
open Ri Q
theorem turn {ps : List (List Nat)} (P : Piles ps) {ns : List Str} (N : Names ns) (n : Nat) (S : Sta) (l : Nat → Nat) (E : List (Nat × List Nat)) (w : List Nat) (W : WI ps l E w) (H : WS ps ns S l E w) :
    ∃ S', exB nm fn FT15 sF_law_walked true (n + 70) wkB S = some (.next, S') ∧ ∃ l' E' w', WS ps ns S' l' E' w' ∧ WI ps l' E' w' ∧ ((Done E w → Done E' w') ∧ (Done E' w' ∨ phi l' E' w' < phi l E w)) := by
  by_cases hw : w = []
  · subst hw
    obtain ⟨S', e, w', H', W', q⟩ := turn_new N (n + 30) S l E W H
    refine ⟨S', e, l, E, w', H', W', fun hd => ?_, q⟩
    cases w' with
    | nil => exact ⟨rfl, hd.2⟩
    | cons k r => exact absurd (hd.2 k (W'.wle k (by simp)).1 (W'.wle k (by simp)).2) (W'.wno k (by simp))
  · obtain ⟨u, v, rfl⟩ : ∃ u v, w = u ++ [v] := ⟨_, _, (List.dropLast_concat_getLast hw).symm⟩
    have nd : ¬ Done E (u ++ [v]) := fun h => hw h.1
    by_cases hE : top (arF ps) l v ∈ E.map (·.1)
    · obtain ⟨S', e, E', H', W', q⟩ := turn_home P N (n + 10) S l E u v W H hE
      exact ⟨S', e, l, E', [], H', W', fun h => absurd h nd, .inr q⟩
    · by_cases hm : top (arF ps) l v ∈ u ++ [v]
      · obtain ⟨S', e, l', w', H', W', q⟩ := turn_ring P N n S l E u v W H hE hm
        exact ⟨S', e, l', E, w', H', W', fun h => absurd h nd, .inr q⟩
      · obtain ⟨S', e, H', W', q⟩ := turn_far P N (n + 30) S l E u v W H hE hm
        exact ⟨S', e, l, E, _, H', W', fun h => absurd h nd, .inr q⟩
theorem WS.put32 {ps : List (List Nat)} {ns : List Str} {S : Sta} {l : Nat → Nat} {E : List (Nat × List Nat)} {w : List Nat} (H : WS ps ns S l E w) (sl : Slot) : WS ps ns (S.put 32 sl) l E w := by
  obtain ⟨a, b, ⟨r, hr, c⟩, d, e, f⟩ := H
  refine ⟨?_, ?_, ⟨r, hr, ?_⟩, ?_, ?_, ?_⟩ <;> (rw [put_at, if_neg (by omega)]; assumption)
theorem walk_for {ps : List (List Nat)} (P : Piles ps) {ns : List Str} (N : Names ns) (n : Nat) (S : Sta) (H : WS ps ns S (fun _ => 0) [(0, [])] []) :
    ∃ S', exS nm fn FT15 sF_law_walked true (n + 72) (.for (.one 32 ⟨261,8,261,12⟩) (.bi .range ⟨261,16,261,21⟩ (.cons (.int (40) 0 ⟨261,22,261,24⟩) .nil) ⟨261,16,261,25⟩) (.cons (.ite (.cmp .eq (.var 0 ⟨262,11,262,15⟩) (.str "" 0 ⟨262,19,262,21⟩) ⟨262,11,262,21⟩) (.cons (.asg 33 ⟨263,12,263,16⟩ (.item (.call 5 ⟨263,19,263,41⟩ (.cons (.bi .sorted ⟨263,42,263,48⟩ (.cons (.slice (.var 28 ⟨263,49,263,54⟩) (.some (.int (1) 0 ⟨263,55,263,56⟩)) .none ⟨263,55,263,57⟩ ⟨263,49,263,58⟩) .nil) ⟨263,42,263,59⟩) (.cons (.bi .sorted ⟨263,61,263,67⟩ (.cons (.var 27 ⟨263,68,263,75⟩) .nil) ⟨263,61,263,76⟩) .nil)) ⟨263,19,263,77⟩) (.int (0) 0 ⟨263,78,263,79⟩) ⟨263,19,263,80⟩) ⟨263,12,263,80⟩) (.cons (.ite (.cmp .ne (.var 33 ⟨264,15,264,19⟩) (.list .nil ⟨264,23,264,25⟩) ⟨264,15,264,25⟩) (.cons (.unp [(17, ⟨265,16,265,20⟩), (18, ⟨265,22,265,27⟩)] 0 ⟨265,16,265,27⟩ (.bi .divmod ⟨265,30,265,36⟩ (.cons (.var 17 ⟨265,37,265,41⟩) (.cons (.bi .len ⟨265,43,265,46⟩ (.cons (.var 33 ⟨265,47,265,51⟩) .nil) ⟨265,43,265,52⟩) .nil)) ⟨265,30,265,53⟩) ⟨265,16,265,53⟩) (.cons (.asg 0 ⟨266,16,266,20⟩ (.call 2 ⟨266,23,266,27⟩ (.cons (.str "/" 0 ⟨266,28,266,31⟩) (.cons (.item (.var 33 ⟨266,33,266,37⟩) (.var 18 ⟨266,38,266,43⟩) ⟨266,33,266,44⟩) .nil)) ⟨266,23,266,45⟩) ⟨266,16,266,45⟩) .nil)) .nil ⟨264,12,266,45⟩) .nil)) (.cons (.asg 34 ⟨268,12,268,15⟩ (.slice (.meth .split (.var 0 ⟨268,18,268,22⟩) ⟨268,18,268,28⟩ (.cons (.str "/" 0 ⟨268,29,268,32⟩) .nil) ⟨268,18,268,33⟩) (.some (.int (1) 0 ⟨268,34,268,35⟩)) .none ⟨268,34,268,36⟩ ⟨268,18,268,37⟩) ⟨268,12,268,37⟩) (.cons (.asg 19 ⟨269,12,269,16⟩ (.item (.item (.var 29 ⟨269,19,269,24⟩) (.call 3 ⟨269,25,269,33⟩ (.cons (.var 0 ⟨269,34,269,38⟩) .nil) ⟨269,25,269,39⟩) ⟨269,19,269,40⟩) (.item (.var 23 ⟨269,41,269,45⟩) (.call 3 ⟨269,46,269,54⟩ (.cons (.var 0 ⟨269,55,269,59⟩) .nil) ⟨269,46,269,60⟩) ⟨269,41,269,61⟩) ⟨269,19,269,62⟩) ⟨269,12,269,62⟩) (.cons (.ite (.cmp .isIn (.var 19 ⟨270,15,270,19⟩) (.var 27 ⟨270,23,270,30⟩) ⟨270,15,270,30⟩) (.cons (.for (.one 31 ⟨271,20,271,24⟩) (.rev (.var 34 ⟨271,28,271,31⟩) 0 ⟨271,35,271,36⟩ ⟨271,34,271,36⟩ ⟨271,32,271,36⟩ ⟨271,28,271,37⟩) (.cons (.setI 27 ⟨272,20,272,27⟩ (.var 31 ⟨272,28,272,32⟩) ⟨272,20,272,33⟩ (.call 2 ⟨272,36,272,40⟩ (.cons (.item (.var 27 ⟨272,41,272,48⟩) (.var 19 ⟨272,49,272,53⟩) ⟨272,41,272,54⟩) (.cons (.var 31 ⟨272,56,272,60⟩) .nil)) ⟨272,36,272,61⟩) ⟨272,20,272,61⟩) (.cons (.asg 19 ⟨273,20,273,24⟩ (.var 31 ⟨273,27,273,31⟩) ⟨273,20,273,31⟩) .nil)) ⟨271,16,273,31⟩) (.cons (.asg 0 ⟨274,16,274,20⟩ (.str "" 0 ⟨274,23,274,25⟩) ⟨274,16,274,25⟩) .nil)) (.cons (.ite (.cmp .isIn (.var 19 ⟨275,17,275,21⟩) (.var 34 ⟨275,25,275,28⟩) ⟨275,17,275,28⟩) (.cons (.asg 24 ⟨276,16,276,20⟩ (.slice (.var 34 ⟨276,23,276,26⟩) (.some (.meth .index (.var 34 ⟨276,27,276,30⟩) ⟨276,27,276,36⟩ (.cons (.var 19 ⟨276,37,276,41⟩) .nil) ⟨276,27,276,42⟩)) .none ⟨276,27,276,43⟩ ⟨276,23,276,44⟩) ⟨276,16,276,44⟩) (.cons (.for (.one 31 ⟨277,20,277,24⟩) (.var 24 ⟨277,28,277,32⟩) (.cons (.augI 23 ⟨278,20,278,24⟩ (.var 31 ⟨278,25,278,29⟩) ⟨278,20,278,30⟩ .add (.int (1) 0 ⟨278,34,278,35⟩) ⟨278,20,278,35⟩) .nil) ⟨277,16,278,35⟩) (.cons (.for (.one 31 ⟨279,20,279,24⟩) (.slice (.var 24 ⟨279,28,279,32⟩) (.some (.int (1) 0 ⟨279,33,279,34⟩)) .none ⟨279,33,279,35⟩ ⟨279,28,279,36⟩) (.cons (.asg 0 ⟨280,20,280,24⟩ (.call 4 ⟨280,27,280,34⟩ (.cons (.var 0 ⟨280,35,280,39⟩) .nil) ⟨280,27,280,40⟩) ⟨280,20,280,40⟩) .nil) ⟨279,16,280,40⟩) .nil))) (.cons (.asg 0 ⟨282,16,282,20⟩ (.call 2 ⟨282,23,282,27⟩ (.cons (.var 0 ⟨282,28,282,32⟩) (.cons (.var 19 ⟨282,34,282,38⟩) .nil)) ⟨282,23,282,39⟩) ⟨282,16,282,39⟩) .nil) ⟨275,12,282,39⟩) .nil) ⟨270,12,282,39⟩) .nil))) ⟨262,8,282,39⟩) .nil) ⟨261,4,282,39⟩) S = some (.next, S') ∧ ∃ l E, WS ps ns S' l E [] ∧ WI ps l E [] ∧ Done E [] := by
  have hsrc : evSrc nm fn FT15 (n + 71) sF_law_walked (.bi .range ⟨261,16,261,21⟩ (.cons (.int (40) 0 ⟨261,22,261,24⟩) .nil) ⟨261,16,261,25⟩) true (rhoOf S) = some (rangeD 0 40, false, false) := by
    simp only [Q.int, Q.nil, Q.cons, Q.srange, Q.rg1, Bool.and_self, decide_true, if_true, Q.na40, Nat.reduceLT, k_law_walked]
  rw [Q.sfor, hsrc]
  simp only [Q.tw1, Q.tv1, k_law_walked, List.all_cons, List.all_nil, Bool.and_true, beq_self_eq_true, if_true]
  have W0 : WI ps (fun _ => 0) [(0, [])] [] := ⟨.refl _, fun _ => by omega, .root, by simp, (fun k hk => (by cases hk)), (fun k hk => (by cases hk)), trivial⟩
  obtain ⟨S', e, l, E, w, H', W', q⟩ := Q.loop_inv (f := exB nm fn FT15 sF_law_walked true (n + 71) wkB) (tg := (.one 32 ⟨261,8,261,12⟩))
    (I := fun m S' => ∃ l E w, WS ps ns S' l E w ∧ WI ps l E w ∧ (Done E w ∨ phi l E w + m ≤ 30)) (rangeD 0 40) 0 S ⟨_, _, _, H, W0, .inr (by unfold phi mu; simp)⟩ (fun j d S1 hd hI => by
      obtain ⟨l, E, w, H1, W1, q⟩ := hI
      obtain ⟨S2, e, l', E', w', H2, W2, q1, q2⟩ := turn P N (n + 1) (S1.put 32 (.fr d)) l E w W1 (H1.put32 _)
      refine ⟨_, S2, rfl, e, l', E', w', H2, W2, ?_⟩
      rcases q with q | q
      · exact .inl (q1 q)
      · refine q2.imp id fun z => ?_
        omega)
  have hdone : Done E w := by
    rcases q with q | q
    · exact q
    · have := W'.phi_ge
      rw [Q.range_len] at q
      have h40 : (0 + ((40 : Int) - 0).toNat) = 40 := rfl
      rw [h40] at q
      omega
  have hw := hdone.1
  subst hw
  exact ⟨S', e, l, E, H', W', hdone⟩
theorem goal_ev {ps : List (List Nat)} (P : Piles ps) {ns : List Str} (N : Names ns) (n : Nat) (r : Rho) (k : Nat) (h1 : 1 ≤ k) (h5 : k ≤ 5) (h28 : r 28 = some (toldD ns, false)) (h15 : r 15 = some (arrD ps, false)) (h11 : r 11 = some (.int (k : Nat), false)) :
    ev nm fn FT15 (n + 20) (rel sF_law_walked sc5) (.bin .add (.lcomp (.item (.var 28 ⟨257,24,257,29⟩) (.var 30 ⟨257,30,257,31⟩) ⟨257,24,257,32⟩) (.cons (.one 30 ⟨257,37,257,38⟩) (.item (.var 15 ⟨257,42,257,48⟩) (.var 11 ⟨257,49,257,50⟩) ⟨257,42,257,51⟩) .nil .nil) sc4 ⟨257,23,257,52⟩) (.list (.cons (.str "" 0 ⟨257,56,257,58⟩) .nil) ⟨257,55,257,59⟩) ⟨257,23,257,59⟩) false r = some (goalL ps ns k, false) := by
  obtain ⟨l, e, a, b⟩ := P.all (k - 1) (by omega)
  have e2 : ps.getD (k - 1) [] = l := by rw [List.getD_eq_getElem?_getD, e]; rfl
  have hi := P.item h1 h5
  rw [e2] at hi
  match l, a with
  | [x1, x2, x3, x4], _ =>
    have t1 := told_item N (k := x1) (by have := b x1 (by simp); omega)
    have t2 := told_item N (k := x2) (by have := b x2 (by simp); omega)
    have t3 := told_item N (k := x3) (by have := b x3 (by simp); omega)
    have t4 := told_item N (k := x4) (by have := b x4 (by simp); omega)
    have hl4 : lsI [x1, x2, x3, x4] = [.int (x1 : Nat), .int (x2 : Nat), .int (x3 : Nat), .int (x4 : Nat)] := rfl
    rw [hl4] at hi
    unfold goalL
    rw [e2]
    simp only [Q.var, Q.str, Q.bin, Q.item, Q.list, Q.lcomp, Q.nil, Q.cons, Q.sr_l, Q.sitem, Q.g0, Q.g1, Q.inil, Q.addL, Q.itV_ff, Q.unt_nil, Q.unt_cons, Q.map_some, Q.b1, Q.tw1, listLine, List.cons_append, List.nil_append, List.map_cons, List.map_nil, List.length_cons, List.length_nil, Bool.not_true, Bool.not_false, Bool.or_false, Bool.and_self, if_true, if_false, beq_self_eq_true, Nat.reduceEqDiff, Nat.reduceAdd, Nat.reduceLeDiff, and_self, Nat.zero_add, k_law_walked, h28, h15, h11, hi, t1, t2, t3, t4, Q.cl_nil, Q.cl_cons]
theorem walk_goals {ps : List (List Nat)} (P : Piles ps) {ns : List Str} (N : Names ns) (n : Nat) (S : Sta) (h28 : S 28 = some (.fr (toldD ns))) (h15 : S 15 = some (.fr (arrD ps))) :
    exS nm fn FT15 sF_law_walked true (n + 40) (.asg 29 ⟨257,4,257,9⟩ (.dcomp (.item (.var 28 ⟨257,13,257,18⟩) (.var 11 ⟨257,19,257,20⟩) ⟨257,13,257,21⟩) (.bin .add (.lcomp (.item (.var 28 ⟨257,24,257,29⟩) (.var 30 ⟨257,30,257,31⟩) ⟨257,24,257,32⟩) (.cons (.one 30 ⟨257,37,257,38⟩) (.item (.var 15 ⟨257,42,257,48⟩) (.var 11 ⟨257,49,257,50⟩) ⟨257,42,257,51⟩) .nil .nil) sc4 ⟨257,23,257,52⟩) (.list (.cons (.str "" 0 ⟨257,56,257,58⟩) .nil) ⟨257,55,257,59⟩) ⟨257,23,257,59⟩) (.cons (.one 11 ⟨257,64,257,65⟩) (.bi .range ⟨257,69,257,74⟩ (.cons (.int (1) 0 ⟨257,75,257,76⟩) (.cons (.int (6) 0 ⟨257,78,257,79⟩) .nil)) ⟨257,69,257,80⟩) .nil .nil) sc5 ⟨257,12,257,81⟩) ⟨257,4,257,81⟩) S = some (.next, S.put 29 (.fr (goalsD ps ns))) := by
  have r28 : rhoOf S 28 = some (toldD ns, false) := Q.rho S 28 _ h28
  have r15 : rhoOf S 15 = some (arrD ps, false) := Q.rho S 15 _ h15
  have t1 : itemD (toldD ns) (.int 1) = some (.str (nmS ns 1)) := told_item N (k := 1) (by omega)
  have t2 : itemD (toldD ns) (.int 2) = some (.str (nmS ns 2)) := told_item N (k := 2) (by omega)
  have t3 : itemD (toldD ns) (.int 3) = some (.str (nmS ns 3)) := told_item N (k := 3) (by omega)
  have t4 : itemD (toldD ns) (.int 4) = some (.str (nmS ns 4)) := told_item N (k := 4) (by omega)
  have t5 : itemD (toldD ns) (.int 5) = some (.str (nmS ns 5)) := told_item N (k := 5) (by omega)
  have g1 : ∀ r : Rho, r 28 = some (toldD ns, false) → r 15 = some (arrD ps, false) → r 11 = some (.int 1, false) → ev nm fn FT15 (n + 38) (rel sF_law_walked sc5) (.bin .add (.lcomp (.item (.var 28 ⟨257,24,257,29⟩) (.var 30 ⟨257,30,257,31⟩) ⟨257,24,257,32⟩) (.cons (.one 30 ⟨257,37,257,38⟩) (.item (.var 15 ⟨257,42,257,48⟩) (.var 11 ⟨257,49,257,50⟩) ⟨257,42,257,51⟩) .nil .nil) sc4 ⟨257,23,257,52⟩) (.list (.cons (.str "" 0 ⟨257,56,257,58⟩) .nil) ⟨257,55,257,59⟩) ⟨257,23,257,59⟩) false r = some (goalL ps ns 1, false) := fun r h28 h15 h11 => goal_ev P N (n + 18) r 1 (by omega) (by omega) h28 h15 h11
  have g2 : ∀ r : Rho, r 28 = some (toldD ns, false) → r 15 = some (arrD ps, false) → r 11 = some (.int 2, false) → ev nm fn FT15 (n + 38) (rel sF_law_walked sc5) (.bin .add (.lcomp (.item (.var 28 ⟨257,24,257,29⟩) (.var 30 ⟨257,30,257,31⟩) ⟨257,24,257,32⟩) (.cons (.one 30 ⟨257,37,257,38⟩) (.item (.var 15 ⟨257,42,257,48⟩) (.var 11 ⟨257,49,257,50⟩) ⟨257,42,257,51⟩) .nil .nil) sc4 ⟨257,23,257,52⟩) (.list (.cons (.str "" 0 ⟨257,56,257,58⟩) .nil) ⟨257,55,257,59⟩) ⟨257,23,257,59⟩) false r = some (goalL ps ns 2, false) := fun r h28 h15 h11 => goal_ev P N (n + 18) r 2 (by omega) (by omega) h28 h15 h11
  have g3 : ∀ r : Rho, r 28 = some (toldD ns, false) → r 15 = some (arrD ps, false) → r 11 = some (.int 3, false) → ev nm fn FT15 (n + 38) (rel sF_law_walked sc5) (.bin .add (.lcomp (.item (.var 28 ⟨257,24,257,29⟩) (.var 30 ⟨257,30,257,31⟩) ⟨257,24,257,32⟩) (.cons (.one 30 ⟨257,37,257,38⟩) (.item (.var 15 ⟨257,42,257,48⟩) (.var 11 ⟨257,49,257,50⟩) ⟨257,42,257,51⟩) .nil .nil) sc4 ⟨257,23,257,52⟩) (.list (.cons (.str "" 0 ⟨257,56,257,58⟩) .nil) ⟨257,55,257,59⟩) ⟨257,23,257,59⟩) false r = some (goalL ps ns 3, false) := fun r h28 h15 h11 => goal_ev P N (n + 18) r 3 (by omega) (by omega) h28 h15 h11
  have g4 : ∀ r : Rho, r 28 = some (toldD ns, false) → r 15 = some (arrD ps, false) → r 11 = some (.int 4, false) → ev nm fn FT15 (n + 38) (rel sF_law_walked sc5) (.bin .add (.lcomp (.item (.var 28 ⟨257,24,257,29⟩) (.var 30 ⟨257,30,257,31⟩) ⟨257,24,257,32⟩) (.cons (.one 30 ⟨257,37,257,38⟩) (.item (.var 15 ⟨257,42,257,48⟩) (.var 11 ⟨257,49,257,50⟩) ⟨257,42,257,51⟩) .nil .nil) sc4 ⟨257,23,257,52⟩) (.list (.cons (.str "" 0 ⟨257,56,257,58⟩) .nil) ⟨257,55,257,59⟩) ⟨257,23,257,59⟩) false r = some (goalL ps ns 4, false) := fun r h28 h15 h11 => goal_ev P N (n + 18) r 4 (by omega) (by omega) h28 h15 h11
  have g5 : ∀ r : Rho, r 28 = some (toldD ns, false) → r 15 = some (arrD ps, false) → r 11 = some (.int 5, false) → ev nm fn FT15 (n + 38) (rel sF_law_walked sc5) (.bin .add (.lcomp (.item (.var 28 ⟨257,24,257,29⟩) (.var 30 ⟨257,30,257,31⟩) ⟨257,24,257,32⟩) (.cons (.one 30 ⟨257,37,257,38⟩) (.item (.var 15 ⟨257,42,257,48⟩) (.var 11 ⟨257,49,257,50⟩) ⟨257,42,257,51⟩) .nil .nil) sc4 ⟨257,23,257,52⟩) (.list (.cons (.str "" 0 ⟨257,56,257,58⟩) .nil) ⟨257,55,257,59⟩) ⟨257,23,257,59⟩) false r = some (goalL ps ns 5, false) := fun r h28 h15 h11 => goal_ev P N (n + 18) r 5 (by omega) (by omega) h28 h15 h11
  have hp := putAll_eq [(nmS ns 1, goalL ps ns 1), (nmS ns 2, goalL ps ns 2), (nmS ns 3, goalL ps ns 3), (nmS ns 4, goalL ps ns 4), (nmS ns 5, goalL ps ns 5)] (by
      have := N.nd
      rw [names_five N] at this
      exact this)
  have hp1 : [nmS ns 1, nmS ns 2, nmS ns 3, nmS ns 4, nmS ns 5] = ns := (names_five N).symm
  simp only [Q.var, Q.int, Q.item, Q.dcomp, Q.nil, Q.cons, Q.srange, Q.rg2, Q.g0, Q.g1, Q.inil, Q.swd, Q.asg, Q.itV_ff, Q.map_some, Q.b1, Q.tw1, listLine, List.cons_append, List.nil_append, List.map_cons, List.map_nil, List.length_cons, List.length_nil, Bool.and_self, decide_true, if_true, if_false, beq_self_eq_true, Q.na1, Q.na6, Nat.reduceEqDiff, Nat.reduceAdd, Nat.reduceLT, Nat.reduceLeDiff, and_self, Int.cast_ofNat_Int, Nat.zero_add, range16, Q.cl_nil, Q.cl_cons, Q.kv_nil, Q.kv_cons, k_law_walked, r28, r15, t1, t2, t3, t4, t5, g1, g2, g3, g4, g5, hp, hp1]
  rfl
theorem walk_lost {ns : List Str} (N : Names ns) (n : Nat) (S : Sta) (h28 : S 28 = some (.fr (toldD ns))) :
    exS nm fn FT15 sF_law_walked true (n + 40) (.own 23 ⟨258,4,258,8⟩ (.dcomp (.var 31 ⟨258,12,258,16⟩) (.int (0) 0 ⟨258,18,258,19⟩) (.cons (.one 31 ⟨258,24,258,28⟩) (.slice (.var 28 ⟨258,32,258,37⟩) (.some (.int (1) 0 ⟨258,38,258,39⟩)) .none ⟨258,38,258,40⟩ ⟨258,32,258,41⟩) .nil .nil) sc6 ⟨258,11,258,42⟩) ⟨258,4,258,42⟩) S = some (.next, S.put 23 (.di ns (lostD fun _ => 0))) := by
  have r28 : rhoT S 28 = some (toldD ns, true) := by rw [Q.rhoT_at, h28]; rfl
  have hsl : sliceD (toldD ns) (some (.int 1)) none = some (.lst [.str (nmS ns 1), .str (nmS ns 2), .str (nmS ns 3), .str (nmS ns 4), .str (nmS ns 5)]) := by
    unfold toldD
    rw [Q.slL, Q.cutI, Q.cutN, if_pos (by decide)]
    have hl : ((Str.ofString "" :: ns).map D.str).length = 6 := by simp [N.len]
    dsimp only
    rw [hl, if_pos (by unfold listLine; omega)]
    have : List.take 6 ((Str.ofString "" :: ns).map D.str) = (Str.ofString "" :: ns).map D.str := List.take_of_length_le (by omega)
    rw [this]
    have h5 : ns.map D.str = [.str (nmS ns 1), .str (nmS ns 2), .str (nmS ns 3), .str (nmS ns 4), .str (nmS ns 5)] := by
      have := congrArg (List.map D.str) (names_five N)
      exact this
    rw [← h5]; rfl
  have itl : ∀ ds : List D, itV (.lst ds) true = (.lst ds, !(D.lst ds).atom) := fun ds => rfl
  have hp := putAll_eq [(nmS ns 1, D.int 0), (nmS ns 2, D.int 0), (nmS ns 3, D.int 0), (nmS ns 4, D.int 0), (nmS ns 5, D.int 0)] (by
      have := N.nd
      rw [names_five N] at this
      exact this)
  have hp1 : [nmS ns 1, nmS ns 2, nmS ns 3, nmS ns 4, nmS ns 5] = ns := (names_five N).symm
  simp only [Q.var, Q.int, Q.slice, Q.dcomp, Q.onone, Q.osome, Q.sr_l, Q.sslice, Q.g0, Q.g1, Q.inil, Q.swd, Q.own, Q.itV_s, Q.map_some, Q.b1, Q.tw1, Q.so_di, Q.at_i, listLine, List.cons_append, List.nil_append, List.map_cons, List.map_nil, List.length_cons, List.length_nil, List.all_cons, List.all_nil, Bool.and_self, if_true, beq_self_eq_true, Nat.reduceAdd, Nat.reduceLeDiff, Nat.zero_add, itl, Q.cl_nil, Q.cl_cons, Q.kv_nil, Q.kv_cons, k_law_walked, r28, hsl, hp, hp1]
  rfl
theorem sub_of {ks' : List Str} {ds' : List D} : ∀ {ks : List Str} {ds : List D}, ks.length = ds.length → (∀ (i : Nat) (x : Str) (d : D), ks[i]? = some x → ds[i]? = some d → ∃ d', lookD ks' ds' x = some d' ∧ sameAtom d d' = true) → subDct ks' ds' ks ds = true
  | [], [], _, _ => rfl
  | k :: ks, d :: ds, hl, h => by
    obtain ⟨d', a, b⟩ := h 0 k d rfl rfl
    show ((match lookD ks' ds' k with
      | some d' => sameAtom d d'
      | none => false) && subDct ks' ds' ks ds) = true
    rw [a]
    dsimp only
    rw [b, sub_of (by simpa using hl) fun i x d h1 h2 => h (i + 1) x d (by simpa using h1) (by simpa using h2)]
    rfl
  | [], _ :: _, hl, _ => by simp at hl
  | _ :: _, [], hl, _ => by simp at hl
theorem g_walked {ps : List (List Nat)} (P : Piles ps) {ns : List Str} (N : Names ns) (r : Nat) (hr : r < 10000000000) : ∃ l E, WI ps l E [] ∧ Done E [] ∧
    E15.g [toldD ns, arrD ps, .int r] = some (.tup [.dct ns (lostD l), .dct (keysW ns E) (valsW ns E)]) := by
  have htp : (!dF_law_walked.exact) = true := rfl
  have h28' : (staOf pF_law_walked [toldD ns, arrD ps, .int r]) 28 = some (.fr (toldD ns)) := rfl
  have h15' : (staOf pF_law_walked [toldD ns, arrD ps, .int r]) 15 = some (.fr (arrD ps)) := rfl
  have h17' : (staOf pF_law_walked [toldD ns, arrD ps, .int r]) 17 = some (.fr (.int r)) := rfl
  generalize hS0 : staOf pF_law_walked [toldD ns, arrD ps, .int r] = S0 at h28' h15' h17'
  have s0 := walk_goals P N 159 S0 h28' h15'
  have s1 := walk_lost N 158 (S0.put 29 (.fr (goalsD ps ns))) (by rw [put_at, if_neg (by omega)]; exact h28')
  generalize hS2 : (S0.put 29 (.fr (goalsD ps ns))).put 23 (.di ns (lostD fun _ => 0)) = S2 at s1
  have s2 : exS nm fn FT15 sF_law_walked true 197 (.own 27 ⟨259,4,259,11⟩ (.dict (.cons (.str "" 0 ⟨259,15,259,17⟩) .nil) (.cons (.str "/" 0 ⟨259,19,259,22⟩) .nil) ⟨259,14,259,23⟩) ⟨259,4,259,23⟩) S2 = some (.next, S2.put 27 (.di [Str.ofString ""] [.str slash])) := by
    have esl : Str.ofString "/" = slash := rfl
    simp only [Q.str, Q.dict, Q.pnil, Q.pcons, Q.own, Q.unt_nil, Q.unt_cons, Q.map_some, Q.so_di, Q.at_s, List.nodup_cons, List.not_mem_nil, List.nodup_nil, List.map_cons, List.map_nil, List.length_cons, List.length_nil, List.all_cons, List.all_nil, Bool.not_false, Bool.and_self, if_true, Q.sw_dict, Nat.reduceLeDiff, and_self, not_false_eq_true, Nat.lt_add_one, Nat.zero_add, k_law_walked, esl]
  have s3 : exS nm fn FT15 sF_law_walked true 196 (.asg 0 ⟨260,4,260,8⟩ (.str "" 0 ⟨260,11,260,13⟩) ⟨260,4,260,13⟩) (S2.put 27 (.di [Str.ofString ""] [.str slash])) = some (.next, (S2.put 27 (.di [Str.ofString ""] [.str slash])).put 0 (.fr (.str (Str.ofString "")))) := by
    simp only [Q.str, Q.asg, Bool.and_self, if_true, Q.sw_str, k_law_walked]
  generalize hS4 : (S2.put 27 (.di [Str.ofString ""] [.str slash])).put 0 (.fr (.str (Str.ofString ""))) = S4 at s3
  have H : WS ps ns S4 (fun _ => 0) [(0, [])] [] := by
    subst hS4; subst hS2
    refine ⟨?_, ?_, ⟨r, hr, ?_⟩, ?_, ?_, ?_⟩
    · simp only [put_at, reduceIte, Nat.reduceEqDiff]; exact h28'
    · simp only [put_at, reduceIte, Nat.reduceEqDiff]
    · simp only [put_at, reduceIte, Nat.reduceEqDiff]; exact h17'
    · simp only [put_at, reduceIte, Nat.reduceEqDiff]
    · simp only [put_at, reduceIte, Nat.reduceEqDiff]; rfl
    · simp only [put_at, reduceIte]; exact congrArg (fun x => some (Slot.fr (.str x))) pathS_nil.symm
  obtain ⟨S5, e5, l, E, H5, W5, D5⟩ := walk_for P N 123 S4 H
  have s5 : exS nm fn FT15 sF_law_walked true 194 (.frz 23) S5 = some (.next, S5.put 23 (.fr (.dct ns (lostD l)))) := by
    rw [Q.sfrz, H5.h23]; rfl
  have s6 : exS nm fn FT15 sF_law_walked true 193 (.frz 27) (S5.put 23 (.fr (.dct ns (lostD l)))) = some (.next, (S5.put 23 (.fr (.dct ns (lostD l)))).put 27 (.fr (.dct (keysW ns E) (valsW ns E)))) := by
    rw [Q.sfrz, put_at, if_neg (by omega), H5.h27]; rfl
  have s7 : exS nm fn FT15 sF_law_walked true 192 (.ret (.tup (.cons (.var 23 ⟨283,12,283,16⟩) (.cons (.var 27 ⟨283,18,283,25⟩) .nil)) 0 ⟨283,11,283,26⟩) ⟨283,4,283,26⟩) ((S5.put 23 (.fr (.dct ns (lostD l)))).put 27 (.fr (.dct (keysW ns E) (valsW ns E)))) = some (.ret (.tup [.dct ns (lostD l), .dct (keysW ns E) (valsW ns E)]), (S5.put 23 (.fr (.dct ns (lostD l)))).put 27 (.fr (.dct (keysW ns E) (valsW ns E)))) := by
    simp only [Q.var, Q.tup, Q.nil, Q.cons, Q.sret, Q.unt_nil, Q.unt_cons, Q.rho_put, Q.d_fr, Q.o_fr, List.map_cons, List.map_nil, List.length_cons, List.length_nil, Bool.not_true, Bool.not_false, Bool.and_self, if_true, if_false, Nat.reduceEqDiff, Nat.reduceAdd, Nat.reduceLeDiff, Nat.zero_add]
  refine ⟨l, E, W5, D5, ?_⟩
  rw [e15_g]
  refine Q.gOf_ex (ds' := [toldD ns, arrD ps, .int r]) rfl rfl ⟨(S5.put 23 (.fr (.dct ns (lostD l)))).put 27 (.fr (.dct (keysW ns E) (valsW ns E))), ?_⟩
  rw [htp, hS0]
  unfold bF_law_walked
  rw [Q.bcons, s0]
  dsimp only
  rw [Q.bcons, s1]
  dsimp only
  rw [Q.bcons, s2]
  dsimp only
  rw [Q.bcons, s3]
  dsimp only
  rw [Q.bcons, e5]
  dsimp only
  rw [Q.bcons, s5]
  dsimp only
  rw [Q.bcons, s6]
  dsimp only
  rw [Q.bcons, s7]
end Mine.L2
end
section
set_option maxRecDepth 100000
open PySem PySem.W PyProof.Rows PySem.Calls
set_option autoImplicit false
namespace Mine.L2
open Ri Q
theorem eq_tt (a b c d : D) : cmpD .eq (.tup [a, b]) (.tup [c, d]) = if samePair (.tup [a, b]) (.tup [c, d]) then some true else none := rfl
theorem fks_get {ns : List Str} {k : Nat} (h : k ≤ 5) : (fks ns 5)[k]? = some (nmS ns k) := by
  have : k = 0 ∨ k = 1 ∨ k = 2 ∨ k = 3 ∨ k = 4 ∨ k = 5 := by omega
  rcases this with rfl | rfl | rfl | rfl | rfl | rfl <;> rfl
theorem fds_get {ns : List Str} {f : Nat → Nat} {k : Nat} (h : k ≤ 5) : (fds ns f 5)[k]? = some (.str (if k = 0 then slash else pathS ((ch f 5 k).map (nmS ns)))) := by
  have : k = 0 ∨ k = 1 ∨ k = 2 ∨ k = 3 ∨ k = 4 ∨ k = 5 := by omega
  rcases this with rfl | rfl | rfl | rfl | rfl | rfl <;> rfl
theorem fks_nodup {ns : List Str} (N : Names ns) : (fks ns 5).Nodup := by
  have : fks ns 5 = Str.ofString "" :: ns := by
    have h := names_five N
    exact congrArg (Str.ofString "" :: ·) h.symm
  rw [this, List.nodup_cons]
  exact ⟨fun q => (N.nm _ q).ne empty_toList, N.nd⟩
theorem E_full {ps : List (List Nat)} {l : Nat → Nat} {E : List (Nat × List Nat)} (W : WI ps l E []) (hd : Done E []) : E.length = 6 := by
  have h6 := (E_len W).1
  rcases Nat.lt_or_ge E.length 6 with q | q
  · exfalso
    have hall : ∀ k, k ≤ 5 → k ∈ E.map (·.1) := fun k hk => by
      by_cases h : k = 0
      · subst h; exact List.mem_map.mpr ⟨_, W.okf.has0, rfl⟩
      · exact hd.2 k (by omega) hk
    have hlen : (E.map (·.1)).length = E.length := List.length_map _
    obtain ⟨i, j, hij, hj, e⟩ := php 5 (fun i => (E.map (·.1)).idxOf i) fun i hi => by
      have := List.idxOf_lt_length_iff.mpr (hall i hi)
      show (E.map (·.1)).idxOf i < 5
      omega
    have e : (E.map (·.1)).idxOf i = (E.map (·.1)).idxOf j := e
    have h1 := List.idxOf_lt_length_iff.mpr (hall i (by omega))
    have h2 := List.idxOf_lt_length_iff.mpr (hall j hj)
    have g1 : (E.map (·.1))[(E.map (·.1)).idxOf i]? = some i := by rw [List.getElem?_eq_getElem h1, List.getElem_idxOf h1]
    have g2 : (E.map (·.1))[(E.map (·.1)).idxOf j]? = some j := by rw [List.getElem?_eq_getElem h2, List.getElem_idxOf h2]
    rw [e, g2] at g1
    have := Option.some.inj g1
    omega
  · omega
theorem same_tree {ps : List (List Nat)} (P : Piles ps) {ns : List Str} (N : Names ns) {l L : Nat → Nat} {E : List (Nat × List Nat)} (W : WI ps l E []) (hd : Done E []) (hL : Pops (arF ps) (fun _ => 0) L) (hz : ∀ k, 1 ≤ k → k ≤ 5 → it (top (arF ps) L) 5 k = 0) :
    cmpD .eq (.tup [.dct ns (lostD l), .dct (keysW ns E) (valsW ns E)]) (.tup [.dct ns (lostD L), .dct (fks ns 5) (fds ns (top (arF ps) L) 5)]) = some true := by
  have hl : ∀ k, 1 ≤ k → k ≤ 5 → it (top (arF ps) l) 5 k = 0 := fun k h1 h5 => by
    obtain ⟨⟨k', c⟩, hm, e⟩ := List.mem_map.mp (hd.2 k h1 h5)
    have e : k' = k := e
    subst e
    exact (W.okf.chain5 (top0 _ l) (P.top_le l) hm).1
  have e : l = L := Ri.uniq W.pops hL (still_of (P.top_le l) hl) (still_of (P.top_le L) hz)
  subst e
  have hE := E_full W hd
  rw [eq_tt, if_pos]
  show (sameDct ns (lostD l) ns (lostD l) && sameDct (keysW ns E) (valsW ns E) (fks ns 5) (fds ns (top (arF ps) l) 5)) = true
  rw [Bool.and_eq_true]
  constructor
  · unfold sameDct
    rw [Bool.and_eq_true]
    refine ⟨by simp, sub_of (by rw [N.len]; rfl) fun i x d h1 h2 => ⟨d, look_get N.nd h1 h2, ?_⟩⟩
    have hm := List.mem_of_getElem? h2
    unfold lostD at hm
    simp at hm
    rcases hm with rfl | rfl | rfl | rfl | rfl <;> simp [sameAtom]
  · unfold sameDct
    rw [Bool.and_eq_true]
    refine ⟨?_, sub_of (by unfold keysW valsW; simp) fun i x d h1 h2 => ?_⟩
    · unfold keysW fks; simp [hE]
    · unfold keysW at h1
      unfold valsW at h2
      rw [List.getElem?_map] at h1 h2
      cases hi : E[i]? with
      | none => rw [hi] at h1; cases h1
      | some kc =>
        obtain ⟨k, c⟩ := kc
        rw [hi] at h1 h2
        cases h1; cases h2
        have hm := List.mem_of_getElem? hi
        have hk : k ≤ 5 := W.okf.le k (List.mem_map.mpr ⟨_, hm, rfl⟩)
        have hc := (W.okf.chain5 (top0 _ l) (P.top_le l) hm).2
        refine ⟨_, look_get (fks_nodup N) (fks_get hk) (fds_get hk), ?_⟩
        have : fval ns c = if k = 0 then slash else pathS ((ch (top (arF ps) l) 5 k).map (nmS ns)) := by
          unfold fval
          by_cases h0 : k = 0
          · have : c = [] := by rw [hc, h0]; rfl
            rw [if_pos this, if_pos h0]
          · have : c ≠ [] := by
              rw [hc]
              show (if k = 0 then [] else ch (top (arF ps) l) 4 (top (arF ps) l k) ++ [k]) ≠ []
              rw [if_neg h0]; simp
            rw [if_neg this, if_neg h0, hc]
        show sameAtom (.str (fval ns c)) _ = true
        rw [this]
        simp [sameAtom]
theorem g_law (zs : List Int) (hz : zs.length ≤ 63) : E16.g [.lst (zs.map .int)] = some (.bool true) := by
  obtain ⟨k, j, ps, r, hk, hj, hp1, hp2, hr, hd⟩ := g_drawn zs hz
  have P : Piles ps := ⟨hp1, hp2⟩
  have N : Names (namesOf k j) := ⟨names_length k j, (names_ok hk hj).1, (names_ok hk hj).2⟩
  obtain ⟨L, a1, a2, a3⟩ := g_due P N
  obtain ⟨l, E, W, Dn, b3⟩ := g_walked P N r hr
  have hsame := same_tree P N W Dn a1 a2
  have w := fun i => g_written hk (Nat.mod_lt (j + i) (show 0 < 12 by omega))
  have t := fun i => g_told hk (Nat.mod_lt (j + i) (show 0 < 12 by omega))
  have htx : ((List.range 5).map fun i => poolAt ((j + i) % 12)).map D.str = [.str (poolAt ((j + 0) % 12)), .str (poolAt ((j + 1) % 12)), .str (poolAt ((j + 2) % 12)), .str (poolAt ((j + 3) % 12)), .str (poolAt ((j + 4) % 12))] := rfl
  have hnm : [D.str (Str.ofString ""), .str (nameAt k ((j + 0) % 12)), .str (nameAt k ((j + 1) % 12)), .str (nameAt k ((j + 2) % 12)), .str (nameAt k ((j + 3) % 12)), .str (nameAt k ((j + 4) % 12))] = (Str.ofString "" :: namesOf k j).map .str := rfl
  rw [htx] at hd
  rw [e16_g]
  refine Q.gOf_ex (ds' := [.lst (zs.map .int)]) rfl rfl ?_
  have htp : (!dFlaw.exact) = true := rfl
  rw [htp]
  unfold bFlaw pFlaw
  have harr : D.lst (List.map D.lst ([] :: ps.map lsI)) = arrD ps := rfl
  rw [harr] at hd
  generalize hgw : (.tup [.dct (namesOf k j) (lostD l), .dct (keysW (namesOf k j) E) (valsW (namesOf k j) E)] : D) = dw at *
  generalize hgd : (.tup [.dct (namesOf k j) (lostD L), .dct (fks (namesOf k j) 5) (fds (namesOf k j) (top (arF ps) L) 5)] : D) = dd at *
  unfold toldD at a3 b3
  rw [← hnm] at a3 b3
  generalize arrD ps = arr at *
  have x12 : E12.exact = true := rfl
  have x13 : E13.exact = true := rfl
  simp only [Q.var, Q.str, Q.bin, Q.cmp, Q.list, Q.lcomp, Q.call, Q.nil, Q.cons, Q.sr_l, Q.svar, Q.g0, Q.g1, Q.inil, Q.asg, Q.unp, Q.sret, Q.bcons, Q.addL, Q.itV_ff, Q.unt_nil, Q.unt_cons, Q.rho_put, Q.rho_nil, Q.staOf_cons, Q.d_fr, Q.o_fr, Q.map_some, Q.b1, Q.tw1, Q.pm_nil, Q.pm_cons, listLine, List.nodup_cons, List.mem_cons, List.not_mem_nil, List.nodup_nil, or_self, List.cons_append, List.nil_append, Bool.true_or, List.map_cons, List.map_nil, List.length_cons, List.length_nil, List.all_cons, List.all_nil, Bool.true_and, Bool.not_true, Bool.not_false, Bool.or_false, Bool.false_or, Bool.and_self, decide_true, if_true, if_false, beq_self_eq_true, Q.nt_call, Q.sw_bin, Nat.reduceEqDiff, Nat.reduceAdd, Nat.reduceLT, Nat.reduceLeDiff, Nat.succ_ne_self, and_self, not_false_eq_true, Nat.lt_add_one, Nat.zero_lt_succ, Nat.zero_add, klaw, ft16, hd, Q.cl_nil, Q.cl_cons, x12, x13, w, t, a3, b3, hsame]
  exact ⟨_, rfl⟩
end Mine.L2
end
section
set_option maxRecDepth 100000
open PySem PySem.W PyProof.Rows PySem.Calls
set_option autoImplicit false
namespace Mine
noncomputable def bnames : List Str := [Str.ofString "len", Str.ofString "sorted", Str.ofString "min", Str.ofString "divmod", Str.ofString "range", Str.ofString "enumerate", Str.ofString "type", Str.ofString "issubclass", Str.ofString "isinstance", Str.ofString "str", Str.ofString "bytes", Str.ofString "IndexError"]
section
variable {q : Program} {loose : List Str} {mean : ExcName → Option Value} {mg mb : Str → Option Value} {h : Heap}
theorem free_of (T : Top q loose mean mg mb h) (e : (bnames.all fun x => !(startupNames.contains x) && !(loose.contains x) && !(((recsOf q).map (·.name)).contains x) && !(((litsOf q).map (·.1)).contains x) && !(((clssOf q loose).map (·.name)).contains x)) = true) : ∀ x ∈ bnames, mg x = none := fun x hx => by
  have := List.all_eq_true.mp e x hx
  simp only [Bool.and_eq_true, Bool.not_eq_true', ← Bool.not_eq_true, List.contains_iff_mem] at this
  exact T.free x this.1.1.1.1 this.1.1.1.2 this.1.1.2 this.1.2 this.2
theorem boot_of (T : Top q loose mean mg mb h) : ∀ x ∈ bnames, mb x = bootBuiltins x := fun x hx => by
  refine T.builtins x fun e => ?_
  subst e
  exact absurd hx (by decide +kernel)
theorem has_of (T : Top q loose mean mg mb h) {pw : Program} {fns : List Str} (e : fns.map (fun f => (recsOf q).find? fun d => d.name == f) = fns.map fun f => some (recAt pw f)) : ∀ f ∈ fns, HasFn h mg (recAt pw f) := fun f hf => by
  obtain ⟨i, hi, rfl⟩ := List.getElem_of_mem hf
  have e := congrArg (fun l => l[i]?) e
  simp only [List.getElem?_map, List.getElem?_eq_getElem hi, Option.map_some] at e
  have e := Option.some.inj e
  exact T.fn _ (List.mem_of_find?_eq_some e)
end
theorem boots : bootBuiltins (Str.ofString "len") = some (.builtin "len") ∧ bootBuiltins (Str.ofString "sorted") = some (.builtin "sorted") ∧ bootBuiltins (Str.ofString "min") = some (.builtin "min") ∧ bootBuiltins (Str.ofString "divmod") = some (.builtin "divmod") ∧ bootBuiltins (Str.ofString "range") = some (.type "range") ∧
    bootBuiltins (Str.ofString "enumerate") = some (.type "enumerate") ∧ bootBuiltins (Str.ofString "type") = some (.type "type") ∧ bootBuiltins (Str.ofString "issubclass") = some (.builtin "issubclass") ∧ bootBuiltins (Str.ofString "isinstance") = some (.builtin "isinstance") ∧ bootBuiltins (Str.ofString "str") = some (.type "str") ∧ bootBuiltins (Str.ofString "bytes") = some (.type "bytes") ∧ bootBuiltins (Str.ofString "IndexError") = some (.type "IndexError") := by
  refine ⟨?_, ?_, ?_, ?_, ?_, ?_, ?_, ?_, ?_, ?_, ?_, ?_⟩ <;> decide +kernel
theorem glb_of {nm fn : Nat → Str} {base : Heap} {mg mb : Str → Option Value} (nmd : ∀ i, (nm i == "__debug__") = false ∧ (nm i == "__classdict__") = false) (inj : ∀ i j, nm i = nm j → i = j) (fnd : ∀ f, (fn f == "__debug__") = false)
    (hg : base.Ns mainGlobals mg) (hb : base.Ns builtinsNs mb) (lim : base.NoLimit) (free : ∀ x ∈ bnames, mg x = none) (boot : ∀ x ∈ bnames, mb x = bootBuiltins x) :
    Glb nm fn base mg mb ∧ mg "IndexError" = none ∧ mb "IndexError" = some (.type "IndexError") := by
  obtain ⟨b1, b2, b3, b4, b5, b6, b7, b8, b9, b10, b11, b12⟩ := boots
  have key : ∀ x v, x ∈ bnames → bootBuiltins x = some v → mg x = none ∧ mb x = some v := fun x v hx hv => ⟨free x hx, (boot x hx).trans hv⟩
  refine ⟨⟨nmd, inj, fnd, hg, hb, fun b => ?_, key _ _ (by decide +kernel) b8, key _ _ (by decide +kernel) b9, key _ _ (by decide +kernel) b10, key _ _ (by decide +kernel) b11, lim⟩, key _ _ (by decide +kernel) b12⟩
  cases b with
  | len => exact key _ _ (by decide +kernel) b1
  | sorted => exact key _ _ (by decide +kernel) b2
  | divmod => exact key _ _ (by decide +kernel) b4
  | range => exact key _ _ (by decide +kernel) b5
  | enumerate => exact key _ _ (by decide +kernel) b6
  | type => exact key _ _ (by decide +kernel) b7
theorem law_call {prog : Program} {w : World} {s : Shared} {fe : FE} {fa a : Addr} {zs : List Int} {vs : List Value} {P : Params} {mg : Str → Option Value}
    (c : Con prog w s.heap fe fa) (hneed : fe.need ≤ 30) (hg : fe.g [.lst (zs.map .int)] = some (.bool true)) (hm : s.heap.Ns mainGlobals mg)
    (hw : Well P s.heap (.ref a) (ofPy (.list (zs.map .int)))) (hl : s.heap.IsList a vs.toArray) (hi : IntsAre vs zs) :
    Ok (model prog w) callerA (call (.ref fa) [.ref a]) s (fun v h' => v = .bool true ∧ ∀ b o, s.heap.get? b = some o → h'.get? b = some o) := by
  have hobj : s.heap.get? a = some (sq "list" vs 0) := by
    obtain ⟨o, ho, _, n, hd⟩ := hl
    cases hw with
    | list ha wa =>
      rw [ha] at ho; cases ho
      obtain ⟨e, _⟩ := Data.seq.inj hd
      obtain rfl := List.toArray_inj e
      exact ha
  have low : ∃ b o, sysModules ≤ b ∧ s.heap.get? b = some o := by
    obtain ⟨o, _, _, ho, _⟩ := hm
    exact ⟨_, _, by decide, ho⟩
  have cx : Cx callerA [] s.heap s.heap fe.need := ⟨rfl, rfl, fun _ _ e => e, trivial, by have : callerA.depth = 301 := rfl; omega, by have : callerA.units = 4 := rfl; have : cLine = 9900 := rfl; omega, low⟩
  refine (c callerA [] s cx (Nat.zero_le _) _ _ hg (fun _ => False) [.ref a] (fun a q => by cases q) (fun a q => q.elim) (.cons (.lst id hobj (RL.of_ints hi)) .nil)).mono fun v h' q => ?_
  obtain ⟨k, r⟩ := q
  cases r
  exact ⟨rfl, fun b o e => k.out b o (fun z => by cases z.2) e⟩
end Mine
end
section
set_option maxRecDepth 100000
open PySem PySem.W PyProof.Rows PySem.Calls
set_option autoImplicit false
namespace Mine.L2
section
variable {w : World} {base : Heap} {mg mb : Str → Option Value}
theorem sld_has {fa : Addr} {o : Obj} {pm code doc : Value} (G : Glb nm fn base mg mb) (ie : mg "IndexError" = none ∧ mb "IndexError" = some (.type "IndexError")) (ho : base.get? fa = some o) (hod : o.data = .func (docDef (recAt pw "sorted_list_difference").name (recAt pw "sorted_list_difference").params (recAt pw "sorted_list_difference").body (recAt pw "sorted_list_difference").scope pm code doc)) (hcd : base.CodeRec code (recAt pw "sorted_list_difference").name) : Con pw w base sldFE fa :=
  sld_con (d := recAt pw "sorted_list_difference") G ie ho hod hcd (by rfl) rfl (by decide +kernel) (by decide +kernel) rfl rfl (by decide +kernel) (by decide +kernel) fun pm code doc us hu => by rcases us with _ | ⟨a, _ | ⟨b, _ | ⟨c, r⟩⟩⟩ <;> first | rfl | (simp at hu)
theorem cons_all (G : Glb nm fn base mg mb) (ie : mg "IndexError" = none ∧ mb "IndexError" = some (.type "IndexError")) (H : ∀ f ∈ fns, HasFn base mg (recAt pw f)) : Cons pw w fn base mg FT17 := by
  have c0 : Cons pw w fn base mg FT0 := Cons.nil
  have c1 : Cons pw w fn base mg FT1 := c0.fd G (H (Str.ofString "fspath") (by decide +kernel)) dFfspath (by rfl) tFfspath nFfspath.2
  have c2 : Cons pw w fn base mg FT2 := c1.fd G (H (Str.ofString "_get_sep") (by decide +kernel)) dF_get_sep (by rfl) tF_get_sep nF_get_sep.2
  have c3 : Cons pw w fn base mg FT3 := c2.fd G (H (Str.ofString "join") (by decide +kernel)) dFjoin (by rfl) tFjoin nFjoin.2
  have c4 : Cons pw w fn base mg FT4 := c3.fd G (H (Str.ofString "basename") (by decide +kernel)) dFbasename (by rfl) tFbasename nFbasename.2
  have c5 : Cons pw w fn base mg FT5 := c4.fd G (H (Str.ofString "dirname") (by decide +kernel)) dFdirname (by rfl) tFdirname nFdirname.2
  have c6 : Cons pw w fn base mg FT6 := by
    obtain ⟨a, o, pm, code, doc, h1, h2, h3, h4⟩ := H (Str.ofString "sorted_list_difference") (by decide +kernel)
    exact c5.put (by rfl) ⟨a, o, _, h1, h2, h3, sld_has G ie h2 h3 h4⟩
  have c7 : Cons pw w fn base mg FT7 := c6.fd G (H (Str.ofString "_escape_cdata") (by decide +kernel)) dF_escape_cdata (by rfl) tF_escape_cdata nF_escape_cdata.2
  have c8 : Cons pw w fn base mg FT8 := c7.fd G (H (Str.ofString "_escape_attrib") (by decide +kernel)) dF_escape_attrib (by rfl) tF_escape_attrib nF_escape_attrib.2
  have c9 : Cons pw w fn base mg FT9 := c8.fd G (H (Str.ofString "_escape_attrib_html") (by decide +kernel)) dF_escape_attrib_html (by rfl) tF_escape_attrib_html nF_escape_attrib_html.2
  have c10 : Cons pw w fn base mg FT10 := c9.fd G (H (Str.ofString "_escape_cdata_c14n") (by decide +kernel)) dF_escape_cdata_c14n (by rfl) tF_escape_cdata_c14n nF_escape_cdata_c14n.2
  have c11 : Cons pw w fn base mg FT11 := c10.fd G (H (Str.ofString "_escape_attrib_c14n") (by decide +kernel)) dF_escape_attrib_c14n (by rfl) tF_escape_attrib_c14n nF_escape_attrib_c14n.2
  have c12 : Cons pw w fn base mg FT12 := c11.fd G (H (Str.ofString "_law_drawn") (by decide +kernel)) dF_law_drawn (by rfl) tF_law_drawn nF_law_drawn.2
  have c13 : Cons pw w fn base mg FT13 := c12.fd G (H (Str.ofString "_law_told") (by decide +kernel)) dF_law_told (by rfl) tF_law_told nF_law_told.2
  have c14 : Cons pw w fn base mg FT14 := c13.fd G (H (Str.ofString "_law_written") (by decide +kernel)) dF_law_written (by rfl) tF_law_written nF_law_written.2
  have c15 : Cons pw w fn base mg FT15 := c14.fd G (H (Str.ofString "_law_due") (by decide +kernel)) dF_law_due (by rfl) tF_law_due nF_law_due.2
  have c16 : Cons pw w fn base mg FT16 := c15.fd G (H (Str.ofString "_law_walked") (by decide +kernel)) dF_law_walked (by rfl) tF_law_walked nF_law_walked.2
  have c17 : Cons pw w fn base mg FT17 := c16.fd G (H (Str.ofString "law") (by decide +kernel)) dFlaw (by rfl) tFlaw nFlaw.2
  exact c17
theorem law_con (G : Glb nm fn base mg mb) (ie : mg "IndexError" = none ∧ mb "IndexError" = some (.type "IndexError")) (H : ∀ f ∈ fns, HasFn base mg (recAt pw f)) : ∃ fa fe, FT17[16]? = some fe ∧ mg "law" = some (.ref fa) ∧ fe.need ≤ 17 ∧ Con pw w base fe fa := by
  have c := cons_all (w := w) G ie H
  obtain ⟨fe, e⟩ : ∃ fe, FT17[16]? = some fe := ⟨_, rfl⟩
  obtain ⟨fa, o, fd, h1, h2, h3, h4, h5⟩ := c 16 fe e
  exact ⟨fa, fe, e, h1, h4, h5⟩
end
end Mine.L2
end
section
open PySem PySem.W PyProof.Rows
namespace Mine.L2
theorem law_end2 {w : World} {s₁ : Shared} {mg mb : Str → Option Value} {fa a : Addr} {zs : List Int} {vs : List Value} {P : Params} {q : Program} {loose : List Str} {mean : ExcName → Option Value} (T : Top q loose mean mg mb s₁.heap)
    (e1 : (bnames.all fun x => !(startupNames.contains x) && !(loose.contains x) && !(((recsOf q).map (·.name)).contains x) && !(((litsOf q).map (·.1)).contains x) && !(((clssOf q loose).map (·.name)).contains x)) = true)
    (e2 : fns.map (fun f => (recsOf q).find? fun d => d.name == f) = fns.map fun f => some (recAt pw f)) (hmg : mg "law" = some (.ref fa)) (hz : ¬ (↑63 : Int) < ↑zs.length)
    (hw : Well P s₁.heap (.ref a) (ofPy (.list (zs.map .int)))) (hl : s₁.heap.IsList a vs.toArray) (hi : IntsAre vs zs) :
    Ok (model pw w) callerA (call (.ref fa) [.ref a]) s₁ (fun v h' => v = .bool true ∧ ∀ b o, s₁.heap.get? b = some o → h'.get? b = some o) := by
  obtain ⟨G, ie⟩ := glb_of (nm := nm) (fn := fn) nm_nmd nm_inj fn_fnd T.g T.b T.nolimit (free_of T e1) (boot_of T)
  obtain ⟨fa', fe, h1, h2, h3, h4⟩ := law_con (w := w) G ie (has_of T e2)
  rw [hmg] at h2; cases h2
  have he : FT17[16]? = some E16 := rfl
  rw [he] at h1; cases h1
  exact law_call h4 (by omega) (g_law zs (by omega)) T.g hw hl hi
end Mine.L2
end
open PySem PySem.W PyProof.Rows
set_option maxRecDepth 100000 in
set_option maxHeartbeats 8000000 in
theorem PySem.Challenge.cw_rt0064_02_holds : PySem.Challenge.rw_rt0064_02.Holds := by
  w_on
  refine holds_law Mine.said fun said => ?_
  refine holds_open (q := Mine.view2) (loose := []) (Xt := fun s => xlAt Mine.view2 [] s && recOk (RowW.records PySem.Challenge.rw_rt0064_02.row.toRowW) s) (XP := XL Mine.view2 []) (Yf := Hook.obs Hook.none) (Ya := Hook.val Hook.none) (YP := Hook.says Hook.none) (N := 2 * 1261 + 100) (d := Mine.recA PySem.Challenge.pw_rt0064_02 "law") (kwd := []) ?hl (Hook.of Hook.none) (Hook.keeps Hook.none) (fun s e => xl_of s (Bool.and_eq_true_iff.mp e).1) XL.keeps (by kernel_rfl) (by kernel_rfl) (by kernel_rfl) (fun s e => recFacts_of (Bool.and_eq_true_iff.mp e).2) (by rfl) (by first | assumption | decide +kernel) (by decide +kernel) ⟨rfl, rfl, rfl, rfl, rfl, by decide +kernel⟩ ?hw ?hc
  case hw => exact ⟨[.list []], by decide +kernel, by decide +kernel⟩
  case hl => exact Mine.left
  intro w s₀ s₁ mg mb G Y fa o pm cd doc dV kV ho hd hcd hD hmg hg args vals as hpre hlay hrd hwl hlo
  clear hd hcd hD ho Y
  refine Ground.open G ?_
  intro T B D TE TW
  wrow_args hpre hlay hrd hwl hlo
  rename_i zs _ _ _ _ _ _ _ a vs _ hL _ hW _ hI _ hcond _
  have h := Mine.L2.law_end2 (w := w) T (by decide +kernel) (by kernel_rfl) hmg hcond hW hL hI
  refine wpAny_mono h (fun v s' q => ?_) fun _ _ q => q.elim
  obtain ⟨h', tk, rfl, rfl, k⟩ := q
  refine ⟨.inl ⟨.bool true, .bool true, [], rfl, fun cls => rfl, .bool true, ?_, fun _ => ⟨.nil, fun a h => by cases h⟩⟩, .of_keep k, rfl, .of_eq hg⟩
  exact postW_of (by wrow_shape) (by wtm_val) (by w_fin)
