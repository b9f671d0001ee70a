import PyProof.Rows.All
import Wide.All
import OpenK.AllK
import Wide.FinOn
import KE.KEqDict
import KE.KDictSum
import KE.FramesApart
import PyProof.StationsW
import PyProof.ListIndexOut
import Lean
import PySem.Challenge.RW_rt0064_01
set_option autoImplicit false
set_option maxRecDepth 100000
open PySem PySem.W PyProof.Rows PySem.Calls
namespace Mine
set_option Elab.async false
set_option linter.all false
section
noncomputable def isDefS : Stmt → Bool
 | .Assign .. => false
 | _ => true
noncomputable def recA (p : Program) (f : Str) : DefRec := ((recsOf p).find? fun d => d.name == f).getD ⟨f, ⟨[], [], none, [], [], none, []⟩, [], ⟨.function, [], false, false, []⟩, ⟨0,0,0,0⟩⟩
noncomputable def view1 : Program := { PySem.Challenge.pw_rt0064_01 with main := { PySem.Challenge.pw_rt0064_01.main with body := PySem.Challenge.pw_rt0064_01.main.body.filter isDefS } }
theorem said : PySem.Challenge.rw_rt0064_01.wellSaid = true := by kernel_rfl
open PySem.Challenge in
theorem left : LeftO rw_rt0064_01.row.prog view1 [] (fun s => xlAt view1 [] s && recOk rw_rt0064_01.row.records s) Hook.none.obs Hook.none.val (2 * 1261 + 100) := fun w => by kernel_rfl
end
section
set_option genSizeOf false
set_option genSizeOfSpec false
set_option genInjectivity false
inductive D where
 | none
 | bool (b : Bool)
 | int (i : Int)
 | str (x : Str)
 | ty (T : String)
 | tup (ds : List D)
 | lst (ds : List D)
 | dct (ks : List Str) (ds : List D)
abbrev sq (c : String) (vs : List Value) (n : Nat) : Obj := { cls := .type c, data := .seq vs.toArray n }
section
variable (prog : Program) (w : World)
mutual
inductive R (h : Heap) (W : Addr → Prop) : Value → D → Prop
 | none : R h W .none .none
 | bool (b : Bool) : R h W (.bool b) (.bool b)
 | int (i : Int) (t : Tok) : R h W (.int i t) (.int i)
 | str (x : Str) (t : Tok) : R h W (.str x t) (.str x)
 | ty (T : String) : R h W (.type T) (.ty T)
 | tup {a : Addr} {vs : List Value} {n : Nat} {ds : List D} : ¬ W a → h.get? a = some (sq "tuple" vs n) → RL h W vs ds → R h W (.ref a) (.tup ds)
 | lst {a : Addr} {vs : List Value} {n : Nat} {ds : List D} : ¬ W a → h.get? a = some (sq "list" vs n) → RL h W vs ds → R h W (.ref a) (.lst ds)
 | dct {a : Addr} {kvs : List (Str × Value)} {ks : List Str} {ds : List D} : ¬ W a → (a == sysModules) = false → h.DictOf (strKind prog w) a kvs → ks = kvs.map (·.1) → RL h W (kvs.map (·.2)) ds → R h W (.ref a) (.dct ks ds)
inductive RL (h : Heap) (W : Addr → Prop) : List Value → List D → Prop
 | nil : RL h W [] []
 | cons {v : Value} {d : D} {vs : List Value} {ds : List D} : R h W v d → RL h W vs ds → RL h W (v :: vs) (d :: ds)
end
end
section
variable {prog : Program} {w : World} {h h' : Heap} {W W' : Addr → Prop}
theorem R.mono (hk : ∀ b o, ¬ W b → h.get? b = some o → h'.get? b = some o) (hW : ∀ a, W' a → W a ∨ h.get? a = Option.none) {v : Value} {d : D} (r : R prog w h W v d) : R prog w h' W' v d := by
 have off : ∀ {a o}, ¬ W a → h.get? a = some o → ¬ W' a := fun hn hl hw => (hW _ hw).elim hn fun q => by rw [q] at hl; cases hl
 refine R.rec (motive_1 := fun v d _ => R prog w h' W' v d) (motive_2 := fun vs ds _ => RL prog w h' W' vs ds) .none (fun b => .bool b) (fun i t => .int i t) (fun x t => .str x t) (fun T => .ty T)
  (fun hn hl _ ih => .tup (off hn hl) (hk _ _ hn hl) ih) (fun hn hl _ ih => .lst (off hn hl) (hk _ _ hn hl) ih) (fun hn lo hl e _ ih => ?_) .nil (fun _ _ a b => .cons a b) r
 obtain ⟨o, es, ep, ho, x⟩ := hl
 exact .dct (off hn ho) lo ⟨o, es, ep, hk _ _ hn ho, x⟩ e ih
theorem RL.mono (hk : ∀ b o, ¬ W b → h.get? b = some o → h'.get? b = some o) (hW : ∀ a, W' a → W a ∨ h.get? a = Option.none) {vs : List Value} {ds : List D} (r : RL prog w h W vs ds) : RL prog w h' W' vs ds :=
 RL.rec (motive_1 := fun _ _ _ => True) (motive_2 := fun vs ds _ => RL prog w h' W' vs ds) trivial (fun _ => trivial) (fun _ _ => trivial) (fun _ _ => trivial) (fun _ => trivial) (fun _ _ _ _ => trivial) (fun _ _ _ _ => trivial) (fun _ _ _ _ _ _ => trivial) .nil (fun a _ _ b => .cons (a.mono hk hW) b) r
@[elab_as_elim] theorem RL.consE {us : List Value} {d : D} {ds : List D} {ms : List Value → Prop} (r : RL prog w h W us (d :: ds)) (k : ∀ v vs, R prog w h W v d → RL prog w h W vs ds → ms (v :: vs)) : ms us := by
 cases r with | cons a b => exact k _ _ a b
@[elab_as_elim] theorem RL.nilE {us : List Value} {ms : List Value → Prop} (r : RL prog w h W us []) (k : ms []) : ms us := by
 cases r; exact k
theorem RL.length {vs : List Value} {ds : List D} (x : RL prog w h W vs ds) : vs.length = ds.length := by
 induction ds generalizing vs with
 | nil => exact x.nilE rfl
 | cons d ds ih => exact x.consE fun v vs _ r => congrArg (· + 1) (ih r)
theorem RL.append {vs us : List Value} {ds es : List D} (x : RL prog w h W vs ds) (y : RL prog w h W us es) : RL prog w h W (vs ++ us) (ds ++ es) := by
 induction ds generalizing vs with
 | nil => exact x.nilE y
 | cons d ds ih => exact x.consE fun v vs a r => .cons a (ih r)
theorem RL.get {vs : List Value} {ds : List D} (x : RL prog w h W vs ds) {k : Nat} {d : D} (hd : ds[k]? = some d) : ∃ v, vs[k]? = some v ∧ R prog w h W v d := by
 induction ds generalizing vs k with
 | nil => cases hd
 | cons e ds ih =>
  refine x.consE fun v vs a r => ?_
  cases k with
  | zero => cases hd; exact ⟨v, rfl, a⟩
  | succ k => exact ih r hd
theorem RL.get' {vs : List Value} {ds : List D} (x : RL prog w h W vs ds) {k : Nat} {v : Value} (hv : vs[k]? = some v) : ∃ d, ds[k]? = some d ∧ R prog w h W v d := by
 have hk : k < ds.length := by rw [← x.length]; exact (List.getElem?_eq_some_iff.mp hv).1
 obtain ⟨v', hv', r⟩ := x.get (List.getElem?_eq_getElem hk)
 rw [hv] at hv'; cases hv'
 exact ⟨_, List.getElem?_eq_getElem hk, r⟩
theorem RL.take {vs : List Value} {ds : List D} (x : RL prog w h W vs ds) (k : Nat) : RL prog w h W (vs.take k) (ds.take k) := by
 induction ds generalizing vs k with
 | nil => exact x.nilE (by rw [List.take_nil, List.take_nil]; exact .nil)
 | cons d ds ih =>
  refine x.consE fun v vs a r => ?_
  cases k with
  | zero => exact .nil
  | succ k => exact .cons a (ih r k)
theorem RL.drop {vs : List Value} {ds : List D} (x : RL prog w h W vs ds) (k : Nat) : RL prog w h W (vs.drop k) (ds.drop k) := by
 induction ds generalizing vs k with
 | nil => exact x.nilE (by rw [List.drop_nil, List.drop_nil]; exact .nil)
 | cons d ds ih =>
  refine x.consE fun v vs a r => ?_
  cases k with
  | zero => exact .cons a r
  | succ k => exact ih r k
theorem RL.reverse {vs : List Value} {ds : List D} (x : RL prog w h W vs ds) : RL prog w h W vs.reverse ds.reverse := by
 induction ds generalizing vs with
 | nil => exact x.nilE .nil
 | cons d ds ih =>
  refine x.consE fun v vs a r => ?_
  rw [List.reverse_cons, List.reverse_cons]; exact (ih r).append (.cons a .nil)
theorem RL.set {vs : List Value} {ds : List D} (x : RL prog w h W vs ds) {v : Value} {d : D} (r : R prog w h W v d) (k : Nat) : RL prog w h W (vs.set k v) (ds.set k d) := by
 induction ds generalizing vs k with
 | nil => exact x.nilE .nil
 | cons d' ds ih =>
  refine x.consE fun u us a rs => ?_
  cases k with
  | zero => exact .cons r rs
  | succ k => exact .cons a (ih rs k)
noncomputable def D.atom : D → Bool
 | .tup _ | .lst _ | .dct .. => false
 | _ => true
theorem R.of_atom {v : Value} {d : D} (hd : d.atom = true) (x : R prog w h W v d) : R prog w h' W' v d := by
 cases x <;> first | cases hd; done | constructor
theorem RL.of_atoms {vs : List Value} {ds : List D} (hd : ds.all D.atom = true) (x : RL prog w h W vs ds) : RL prog w h' W' vs ds := by
 induction ds generalizing vs with
 | nil => exact x.nilE .nil
 | cons d ds ih =>
  have hd := (Bool.and_eq_true _ _).mp hd
  exact x.consE fun v vs a r => .cons (a.of_atom hd.1) (ih hd.2 r)
end
structure Kp (S : Addr → Prop) (h h' : Heap) : Prop where
 out : ∀ b o, ¬ S b → h.get? b = some o → h'.get? b = some o
 all : ∀ b o, h.get? b = some o → ∃ sl, h'.get? b = some { o with slots := sl }
section
variable {S T : Addr → Prop} {h h₁ h₂ : Heap}
theorem Kp.of (k : ∀ b o, h.get? b = some o → h₁.get? b = some o) : Kp S h h₁ := ⟨fun b o _ e => k b o e, fun b o e => ⟨o.slots, k b o e⟩⟩
theorem Kp.refl : Kp S h h := Kp.of fun _ _ e => e
theorem Kp.trans (x : Kp S h h₁) (y : Kp S h₁ h₂) : Kp S h h₂ := ⟨fun b o hS e => y.out b o hS (x.out b o hS e), fun b o e => let ⟨_, e₁⟩ := x.all b o e; let ⟨sl, e₂⟩ := y.all b _ e₁; ⟨sl, e₂⟩⟩
theorem Kp.sub (hST : ∀ a, S a → T a) (x : Kp S h h₁) : Kp T h h₁ := ⟨fun b o hT e => x.out b o (fun q => hT (hST b q)) e, x.all⟩
theorem Kp.alive (x : Kp S h h₁) {a : Addr} (e : h₁.get? a = none) : h.get? a = none := by
 cases q : h.get? a with
 | none => rfl
 | some o => obtain ⟨sl, e'⟩ := x.all a o q; rw [e] at e'; cases e'
theorem Kp.ns (x : Kp S h h₁) {L : Addr} {m : Str → Option Value} (hn : h.Ns L m) : h₁.Ns L m := by
 obtain ⟨o, es, ep, ho, hd, r⟩ := hn
 obtain ⟨sl, e⟩ := x.all L o ho
 exact ⟨_, es, ep, e, hd, r⟩
theorem Kp.cell (x : Kp S h h₁) {c : Addr} {v : Option Value} (hn : h.IsCell c v) : h₁.IsCell c v := by
 obtain ⟨o, ho, hd⟩ := hn
 obtain ⟨sl, e⟩ := x.all c o ho
 exact ⟨_, e, hd⟩
theorem Kp.exact (x : Kp (fun _ => False) h h₁) : ∀ b o, h.get? b = some o → h₁.get? b = some o := fun b o e => x.out b o id e
theorem Kp.R {prog : Program} {w : World} {W : Addr → Prop} {v : Value} {d : D} (x : Kp S h h₁) (hS : ∀ a, S a → W a) (r : R prog w h W v d) : R prog w h₁ W v d :=
 r.mono (fun b o hb e => x.out b o (fun q => hb (hS b q)) e) fun _ q => .inl q
theorem Kp.RL {prog : Program} {w : World} {W : Addr → Prop} {vs : List Value} {ds : List D} (x : Kp S h h₁) (hS : ∀ a, S a → W a) (r : RL prog w h W vs ds) : RL prog w h₁ W vs ds :=
 r.mono (fun b o hb e => x.out b o (fun q => hb (hS b q)) e) fun _ q => .inl q
end
@[reducible] noncomputable def up (s : Shared) (h : Heap) (tk : Nat) : Shared := { s with heap := h, toks := tk }
@[reducible] noncomputable def OkP {α : Type} (s : Shared) (P : α → Heap → Prop) (v : α) (s' : Shared) : Prop := ∃ h' tk, s' = up s h' tk ∧ P v h'
theorem fin {α : Type} {s : Shared} {P : α → Heap → Prop} {v : α} {h' : Heap} {tk : Nat} (h : P v h') : OkP s P v (up s h' tk) := ⟨h', tk, rfl, h⟩
noncomputable def Ok {α : Type} (M : Model) (A : Around) (t : Sem α) (s : Shared) (P : α → Heap → Prop) : Prop :=
 wpAny M A t (OkP s P) (fun _ _ => False) s
section
variable {α β : Type} {M : Model} {A : Around} {s : Shared}
theorem Ok.wp {t : Sem α} {P : α → Heap → Prop} (x : Ok M A t s P) {Q : α → Shared → Prop} {E : Value → Shared → Prop} (h : ∀ v h' tk, s.toks ≤ tk → P v h' → Q v (up s h' tk)) : wpAny M A t Q E s :=
 wpAny_mono (wpAny_toks_of (n := s.toks) (Nat.le_refl _) x) (fun v s' q => by
  obtain ⟨hn, h', tk, rfl, p⟩ := q
  exact h v h' tk hn p) fun _ _ q => q.2.elim
theorem Ok.pure {a : α} {P : α → Heap → Prop} (h : P a s.heap) : Ok M A (Pure.pure a) s P := wpAny_pure ⟨_, _, rfl, h⟩
theorem Ok.mono {t : Sem α} {P P' : α → Heap → Prop} (x : Ok M A t s P) (h : ∀ v h', P v h' → P' v h') : Ok M A t s P' :=
 wpAny_mono x (fun v s' q => let ⟨h', tk, e, p⟩ := q; ⟨h', tk, e, h v h' p⟩) fun _ _ q => q
theorem Ok.bind {t : Sem α} {f : α → Sem β} {P : α → Heap → Prop} {P' : β → Heap → Prop} (x : Ok M A t s P)
  (h : ∀ v h' tk, s.toks ≤ tk → P v h' → Ok M A (f v) (up s h' tk) P') : Ok M A (t >>= f) s P' :=
 wpAny_bind (x.wp fun v h' tk hn p => wpAny_mono (h v h' tk hn p) (fun _ s' q => by
  obtain ⟨h'', tk', rfl, p⟩ := q
  exact ⟨h'', tk', rfl, p⟩) fun _ _ q => q)
theorem Ok.hold {vs : List Value} {t : Sem α} {P : α → Heap → Prop} (x : Ok M A t s P) : Ok M A (holding vs t) s P := wpAny_holding x
theorem Ok.pt {P : Unit → Heap → Prop} (h : P () s.heap) : Ok M A point s P := wpAny_point ⟨_, _, rfl, h⟩
theorem Ok.of_eq {t t' : Sem α} {P : α → Heap → Prop} (e : t = t') (x : Ok M A t' s P) : Ok M A t s P := e ▸ x
end
end
section
section
variable {prog : Program} {w : World} {h : Heap} {W : Addr → Prop} {u : Value} {us : List Value} {m : Value → Prop} {ms : List Value → Prop} {d e : D} {ds : List D}
@[elab_as_elim] theorem R.intE {i : Int} (r : R prog w h W u (.int i)) (k : ∀ t, m (.int i t)) : m u := by cases r; exact k _
@[elab_as_elim] theorem R.strE {x : Str} (r : R prog w h W u (.str x)) (k : ∀ t, m (.str x t)) : m u := by cases r; exact k _
@[elab_as_elim] theorem R.boolE {b : Bool} (r : R prog w h W u (.bool b)) (k : m (.bool b)) : m u := by cases r; exact k
@[elab_as_elim] theorem R.lstE (r : R prog w h W u (.lst ds)) (k : ∀ a vs n, ¬ W a → h.get? a = some (sq "list" vs n) → RL prog w h W vs ds → m (.ref a)) : m u := by
 cases r with | lst a b c => exact k _ _ _ a b c
@[elab_as_elim] theorem R.tupE (r : R prog w h W u (.tup ds)) (k : ∀ a vs n, ¬ W a → h.get? a = some (sq "tuple" vs n) → RL prog w h W vs ds → m (.ref a)) : m u := by
 cases r with | tup a b c => exact k _ _ _ a b c
@[elab_as_elim] theorem R.dctE {ks : List Str} (r : R prog w h W u (.dct ks ds)) (k : ∀ a kvs, ¬ W a → (a == sysModules) = false → h.DictOf (strKind prog w) a kvs → ks = kvs.map (·.1) → RL prog w h W (kvs.map (·.2)) ds → m (.ref a)) : m u := by
 cases r with | dct a b c d e => exact k _ _ a b c d e
@[elab_as_elim] theorem RL.oneE (r : RL prog w h W us [d]) (k : ∀ v, R prog w h W v d → ms [v]) : ms us :=
 r.consE fun v _ a r => r.nilE (k v a)
@[elab_as_elim] theorem RL.twoE (r : RL prog w h W us [d, e]) (k : ∀ v v', R prog w h W v d → R prog w h W v' e → ms [v, v']) : ms us :=
 r.consE fun v _ a r => r.oneE fun v' b => k v v' a b
theorem RL.strs {vs : List Value} {xs : List Str} (x : RL prog w h W vs (xs.map .str)) : StrsAre vs xs := by
 induction xs generalizing vs with
 | nil => exact x.nilE .nil
 | cons y r ih => exact x.consE fun v vs a b => R.strE a fun t => .cons _ _ (ih b)
theorem RL.of_strs {vs : List Value} {xs : List Str} (x : StrsAre vs xs) : RL prog w h W vs (xs.map .str) := by
 induction x with
 | nil => exact .nil
 | cons y t _ ih => exact .cons (.str _ _) ih
theorem RL.ints {vs : List Value} {xs : List Int} (x : RL prog w h W vs (xs.map .int)) : IntsAre vs xs := by
 induction xs generalizing vs with
 | nil => exact x.nilE .nil
 | cons y r ih => exact x.consE fun v vs a b => R.intE a fun t => .cons _ _ (ih b)
theorem RL.of_ints {vs : List Value} {xs : List Int} (x : IntsAre vs xs) : RL prog w h W vs (xs.map .int) := by
 induction x with
 | nil => exact .nil
 | cons y t _ ih => exact .cons (.int _ _) ih
end
section
variable {α : Type} {M : Model} {A : Around} {s : Shared} {t : Sem α} {Q : α → Shared → Prop} {E : Value → Shared → Prop}
theorem Ok.wp2 {P P' : α → Heap → Prop} (x : Ok M A t s fun v h => P v h ∧ P' v h) (h : ∀ v h' tk, s.toks ≤ tk → P v h' → P' v h' → Q v (up s h' tk)) : wpAny M A t Q E s :=
 x.wp fun v h' tk n p => h v h' tk n p.1 p.2
theorem Ok.wpE {u : α} {h₀ : Heap} (x : Ok M A t s fun v h => v = u ∧ h = h₀) (h : ∀ tk, s.toks ≤ tk → Q u (up s h₀ tk)) : wpAny M A t Q E s :=
 x.wp fun v h' tk n p => by rw [p.1, p.2]; exact h tk n
theorem Ok.wpF {u : α} {P : Heap → Prop} (x : Ok M A t s fun v h => v = u ∧ P h) (h : ∀ h' tk, s.toks ≤ tk → P h' → Q u (up s h' tk)) : wpAny M A t Q E s :=
 x.wp fun v h' tk n p => by rw [p.1]; exact h h' tk n p.2
theorem tokK (x : wpAny M A t (fun v s' => s.toks ≤ s'.toks → Q v s') E s) : wpAny M A t Q E s :=
 wpAny_mono (wpAny_toks_of (n := s.toks) (Nat.le_refl _) x) (fun _ _ q => q.2 q.1) fun _ _ q => q.2
theorem gg {P : Prop} (h : ∀ G : Prop, (P → G) → G) : P := h P id
theorem optE {α : Type} {a : α} {G : Prop} (h : (none : Option α) = some a) : G := by cases h
theorem ifE {α : Type} {c : Prop} [Decidable c] {a : Option α} {b : α} {G : Prop} (h : (if c then a else none) = some b) (k : c → a = some b → G) : G := by
 by_cases hc : c
 ·exact k hc (by rwa [if_pos hc] at h)
 ·rw [if_neg hc] at h; cases h
theorem bindE {α β : Type} {o : Option α} {f : α → Option β} {b : β} {G : Prop} (h : o.bind f = some b) (k : ∀ a, o = some a → f a = some b → G) : G := by
 cases o with
 | none => cases h
 | some a => exact k a rfl h
@[elab_as_elim] theorem someE {α : Type} {a b : α} {m : α → Prop} (h : some a = some b) (k : m a) : m b := by cases h; exact k
@[elab_as_elim] theorem mapE {α β : Type} {o : Option α} {f : α → β} {b : β} {m : β → Prop} (h : o.map f = some b) (k : ∀ a, o = some a → m (f a)) : m b := by
 cases o with
 | none => cases h
 | some a => cases h; exact k a rfl
end
structure G4 (a b c d : Prop) : Prop where
 a : a
 b : b
 c : c
 d : d
inductive LInv (s : Shared) (n : Nat) (P : Nat → Heap → Prop) : Nat → Shared → Prop
 | mk (i : Nat) (h : Heap) (tk : Nat) (htk : s.toks ≤ tk) (hi : i ≤ n) (p : P i h) : LInv s n P (n + 1 - i) (up s h tk)
end
section
namespace SR
noncomputable def gallop' : Bool → Keyed → Array Keyed → Nat → Nat → Nat → StateT SortSt Sem (Option Nat) := sortPriv% PySem.Builtin.gallop
noncomputable def mergeLo' : Array Keyed → Array Keyed → StateT SortSt Sem (Array Keyed) := sortPriv% PySem.Builtin.mergeLo
noncomputable def mergeHi' : Array Keyed → Array Keyed → StateT SortSt Sem (Array Keyed) := sortPriv% PySem.Builtin.mergeHi
section
variable {prog : Program} {w : World} {A : Around} {E : Value → Shared → Prop} {s : Shared} {κ : PyProof.Rows.KeyKind}
theorem ar0 {lo hi x : Nat} (h : lo ≥ hi) : hi - lo ≤ x := by rw [Nat.sub_eq_zero_of_le h]; exact Nat.zero_le _
theorem ar1 {lo hi : Nat} (h : ¬ lo ≥ hi) : lo + (hi - lo) / 2 < hi := Nat.add_lt_of_lt_sub' (Nat.div_lt_self (Nat.sub_pos_of_lt (Nat.not_le.mp h)) (by decide))
theorem ar2 {l r : Nat} (h : ¬ l ≥ r) : (l + r) / 2 < r := (Nat.div_lt_iff_lt_mul (by decide)).mpr (by rw [Nat.mul_two]; exact Nat.add_lt_add_right (Nat.not_le.mp h) r)
theorem ar3 {l r : Nat} (h : ¬ l ≥ r) : l ≤ (l + r) / 2 := (Nat.le_div_iff_mul_le (by decide)).mpr (by rw [Nat.mul_two]; exact Nat.add_le_add_left (Nat.le_of_lt (Nat.not_le.mp h)) l)
theorem arl {l m r n x : Nat} (h0 : l ≤ m) (h : m < r) (h2 : r - l ≤ n - x) : m - l ≤ n - (x + 1) := Nat.le_sub_one_of_lt (Nat.lt_of_lt_of_le (Nat.sub_lt_sub_right h0 h) h2)
theorem arx {l m r n x : Nat} (h0 : l ≤ m) (h : m < r) (h2 : r - l ≤ n - x) : r - (m + 1) ≤ n - (x + 1) := Nat.le_sub_one_of_lt (Nat.lt_of_lt_of_le (Nat.sub_lt_sub_left (Nat.lt_of_le_of_lt h0 h) (Nat.lt_succ_of_le h0)) h2)
theorem ar4 {a b : Nat} (h : a ≤ b) : a + (b - a) = b := Nat.add_sub_cancel' h
noncomputable def kp (κ : PyProof.Rows.KeyKind) (p : Keyed) : κ.α := (κ.keyOf p.1).getD κ.dflt
theorem wpS_lt {st : SortSt} {p q : Keyed} {Q : Option Bool → SortSt → Prop} (hO : κ.OneLt) (hk : kindOf st = oneType') (hp : ∃ a, κ.keyOf p.1 = some a) (hq : ∃ a, κ.keyOf q.1 = some a)
  (h : Q (some (κ.blt (kp κ p) (kp κ q))) st) : wpS (model prog w) A E s (lt' p q) Q st := by
 obtain ⟨a, ha⟩ := hp
 obtain ⟨b, hb⟩ := hq
 rw [lt'_eq]
 refine wpS_bind (wpS_get ?_)
 rw [hk, keyLt'_oneType]
 refine wpS_bind (wpS_lift (wpAny_attempt (hO prog w _ _ s p.1 q.1 a b ha hb ⟨rfl, ?_⟩)))
 unfold kp at h
 rw [ha, hb] at h
 exact wpS_pure h
theorem wpS_elem {M : Model} {st : SortSt} {arr : Array Keyed} {i : Nat} {p : Keyed} {Q : Keyed → SortSt → Prop} (h : arr[i]? = some p) (hq : Q p st) : wpS M A E s (elem' arr i) Q st := by
 rw [elem'_eq, h]
 exact wpS_pure hq
noncomputable def ask (κ : PyProof.Rows.KeyKind) (left : Bool) (key p : Keyed) : Bool := if left then κ.blt (kp κ p) (kp κ key) else !κ.blt (kp κ key) (kp κ p)
structure Gal (κ : PyProof.Rows.KeyKind) (left : Bool) (key : Keyed) (arr : Array Keyed) (base n : Nat) (f : Nat → Bool) : Prop where
 hk : ∃ a, κ.keyOf key.1 = some a
 at' : ∀ i, i < n → ∃ p, arr[base + i]? = some p ∧ (∃ a, κ.keyOf p.1 = some a) ∧ f i = ask κ left key p
 mono : ∀ i j, i ≤ j → j < n → f j = true → f i = true
theorem wpS_ask {left : Bool} {key : Keyed} {arr : Array Keyed} {base n i : Nat} {f : Nat → Bool} {st : SortSt} {Q : Option Bool → SortSt → Prop} (hO : κ.OneLt) (hk : kindOf st = oneType') (G : Gal κ left key arr base n f) (hi : i < n)
  (h : Q (some (f i)) st) : wpS (model prog w) A E s (elem' arr (base + i) >>= fun x => if left = true then lt' x key else lt' key x >>= fun r => pure (r.map (!·))) Q st := by
 obtain ⟨p, e, hp, ef⟩ := G.at' i hi
 refine wpS_bind (wpS_elem e ?_)
 unfold ask at ef
 cases left with
 | true => exact wpS_lt hO hk hp G.hk (by rw [ef] at h; exact h)
 | false => exact wpS_bind (wpS_lt hO hk G.hk hp (wpS_pure (by rw [ef] at h; exact h)))
structure Cut (f : Nat → Bool) (n lo hi : Nat) : Prop where
 le : lo ≤ hi
 len : hi ≤ n
 yes : ∀ i, i < lo → f i = true
 no : ∀ i, hi ≤ i → i < n → f i = false
inductive CI (f : Nat → Bool) (n x : Nat) (st : SortSt) : Option (Option Nat) × Nat × Nat → SortSt → Prop
 | mk (lo hi : Nat) (c : Cut f n lo hi) (h : hi - lo ≤ n - x) : CI f n x st (none, lo, hi) st
inductive RI (f : Nat → Bool) (n hint x : Nat) (st : SortSt) : Option (Option Nat) × Nat × Nat → SortSt → Prop
 | mk (l o : Nat) (h1 : x < o) (h2 : l < o) (h3 : hint + l < n) (h4 : f (hint + l) = true) : RI f n hint x st (none, l, o) st
inductive RO (f : Nat → Bool) (n hint : Nat) (st : SortSt) : Option (Option Nat) × Nat × Nat → SortSt → Prop
 | mk (l o : Nat) (c : Cut f n (hint + l + 1) (hint + min o (n - hint))) : RO f n hint st (none, l, o) st
inductive LI (f : Nat → Bool) (n hint x : Nat) (st : SortSt) : Option (Option Nat) × Nat × Nat → SortSt → Prop
 | mk (l o : Nat) (h1 : x < o) (h2 : l < o) (h3 : l ≤ hint) (h4 : f (hint - l) = false) : LI f n hint x st (none, l, o) st
inductive LO (f : Nat → Bool) (n hint : Nat) (st : SortSt) : Option (Option Nat) × Nat × Nat → SortSt → Prop
 | mk (l o : Nat) (c : Cut f n (hint + 1 - min o (hint + 1)) (hint - l)) : LO f n hint st (none, l, o) st
theorem Gal.cut_up {left : Bool} {key : Keyed} {arr : Array Keyed} {base n : Nat} {f : Nat → Bool} (G : Gal κ left key arr base n f) {hint l o : Nat} (h2 : l < o) (h3 : hint + l < n) (h4 : f (hint + l) = true)
  (h5 : n - hint ≤ o ∨ f (hint + o) = false) : Cut f n (hint + l + 1) (hint + min o (n - hint)) := by
 refine ⟨Nat.add_le_add_left (Nat.le_min.mpr ⟨h2, Nat.lt_sub_of_add_lt (Nat.add_comm l hint ▸ h3)⟩) hint, Nat.le_trans (Nat.add_le_add_left (Nat.min_le_right _ _) _) (Nat.le_of_eq (ar4 (Nat.le_of_lt (Nat.lt_of_le_of_lt (Nat.le_add_right _ _) h3)))), fun i hi => G.mono i (hint + l) (Nat.le_of_lt_succ hi) h3 h4, fun i hi hn => ?_⟩
 rcases h5 with h5 | h5
 ·rw [Nat.min_eq_right h5, ar4 (Nat.le_of_lt (Nat.lt_of_le_of_lt (Nat.le_add_right _ _) h3))] at hi; exact absurd hn (Nat.not_lt.mpr hi)
 ·cases q : f i with
  | false => rfl
  | true =>
   have := G.mono (hint + o) i ((Nat.le_total o (n - hint)).elim (fun z => by rw [Nat.min_eq_left z] at hi; exact hi) fun z => by rw [Nat.min_eq_right z, ar4 (Nat.le_of_lt (Nat.lt_of_le_of_lt (Nat.le_add_right _ _) h3))] at hi; exact absurd hn (Nat.not_lt.mpr hi)) hn q
   rw [h5] at this
   cases this
theorem Gal.cut_down {left : Bool} {key : Keyed} {arr : Array Keyed} {base n : Nat} {f : Nat → Bool} (G : Gal κ left key arr base n f) {hint l o : Nat} (hh : hint < n) (h2 : l < o) (h3 : l ≤ hint) (h4 : f (hint - l) = false)
  (h5 : hint + 1 ≤ o ∨ f (hint - o) = true) : Cut f n (hint + 1 - min o (hint + 1)) (hint - l) := by
 refine ⟨by have := Nat.sub_le_sub_left (Nat.le_min.mpr ⟨h2, Nat.succ_le_succ h3⟩) (hint + 1); rwa [Nat.succ_eq_add_one, Nat.add_sub_add_right] at this, Nat.le_trans (Nat.sub_le _ _) (Nat.le_of_lt hh), fun i hi => ?_, fun i hi hn => ?_⟩
 ·rcases h5 with h5 | h5
  ·rw [Nat.min_eq_right h5, Nat.sub_self] at hi; exact absurd hi (Nat.not_lt_zero _)
  ·refine G.mono i (hint - o) ((Nat.le_total o (hint + 1)).elim (fun z => ?_) fun z => ?_) (Nat.lt_of_le_of_lt (Nat.sub_le _ _) hh) h5
   ·rw [Nat.min_eq_left z] at hi; exact Nat.le_sub_of_add_le (Nat.le_of_lt_succ (Nat.add_lt_of_lt_sub hi))
   ·rw [Nat.min_eq_right z, Nat.sub_self] at hi; exact absurd hi (Nat.not_lt_zero _)
 ·cases q : f i with
  | false => rfl
  | true =>
   have := G.mono (hint - l) i hi hn q
   rw [h4] at this
   cases this
theorem wpS_gallop {left : Bool} {key : Keyed} {arr : Array Keyed} {base n hint : Nat} {f : Nat → Bool} {st : SortSt} {Q : Option Nat → SortSt → Prop} (hO : κ.OneLt) (hk : kindOf st = oneType') (G : Gal κ left key arr base n f) (hh : hint < n)
  (h : ∀ k, Cut f n k k → Q (some k) st) : wpS (model prog w) A E s (gallop' left key arr base n hint) Q st := by
 refine wpS_bind (wpS_ask hO hk G hh ?_)
 dsimp only
 cases hr : f hint
 case' true =>
  rw [if_pos rfl]
  refine wpS_bind (wpS_mono (wpS_forRange (I := fun x c st' => RI f n hint x st c st') (Q := fun c st' => RO f n hint st c st') ?step ?en ⟨0, 1, Nat.one_pos, Nat.one_pos, hh, hr⟩) ?fin)
  case step =>
   rintro x _ _ _ hx ⟨l, o, h1, h2, h3, h4⟩
   dsimp only
   by_cases c : o ≥ n - hint
   ·rw [if_pos c]
    exact wpS_pure ⟨_, _, G.cut_up h2 h3 h4 (.inl c)⟩
   ·rw [if_neg c]
    refine wpS_bind (wpS_ask hO hk G (Nat.add_lt_of_lt_sub' (Nat.not_le.mp c)) ?_)
    dsimp only
    cases q : f (hint + o) with
    | false => exact wpS_pure ⟨_, _, G.cut_up h2 h3 h4 (.inr q)⟩
    | true => exact wpS_pure ⟨_, _, Nat.succ_lt_succ (Nat.lt_of_lt_of_le h1 (Nat.le_mul_of_pos_left o (by decide))), Nat.lt_succ_of_le (Nat.le_mul_of_pos_left o (by decide)), Nat.add_lt_of_lt_sub' (Nat.not_le.mp c), q⟩
  case en =>
   rintro _ _ ⟨l, o, h1, h2, h3, h4⟩
   exact ⟨_, _, G.cut_up h2 h3 h4 (.inl (Nat.le_trans (Nat.sub_le _ _) (Nat.le_of_lt (Nat.lt_of_le_of_lt (Nat.le_max_right 0 n) h1))))⟩
 case' false =>
  rw [if_neg (by decide)]
  refine wpS_bind (wpS_mono (wpS_forRange (I := fun x c st' => LI f n hint x st c st') (Q := fun c st' => LO f n hint st c st') ?step ?en ⟨0, 1, Nat.one_pos, Nat.one_pos, Nat.zero_le _, hr⟩) ?fin)
  case step =>
   rintro x _ _ _ hx ⟨l, o, h1, h2, h3, h4⟩
   dsimp only
   by_cases c : o ≥ hint + 1
   ·rw [if_pos c]
    exact wpS_pure ⟨_, _, G.cut_down hh h2 h3 h4 (.inl c)⟩
   ·rw [if_neg c]
    refine wpS_bind (wpS_ask hO hk G (Nat.lt_of_le_of_lt (Nat.sub_le _ _) hh) ?_)
    dsimp only
    cases q : f (hint - o) with
    | true => exact wpS_pure ⟨_, _, G.cut_down hh h2 h3 h4 (.inr q)⟩
    | false => exact wpS_pure ⟨_, _, Nat.succ_lt_succ (Nat.lt_of_lt_of_le h1 (Nat.le_mul_of_pos_left o (by decide))), Nat.lt_succ_of_le (Nat.le_mul_of_pos_left o (by decide)), Nat.le_of_lt_succ (Nat.not_le.mp c), q⟩
  case en =>
   rintro _ _ ⟨l, o, h1, h2, h3, h4⟩
   exact ⟨_, _, G.cut_down hh h2 h3 h4 (.inl (Nat.le_trans (Nat.succ_le_of_lt hh) (Nat.le_of_lt (Nat.lt_of_le_of_lt (Nat.le_max_right 0 n) h1))))⟩
 all_goals
  rintro _ _ ⟨l, o, c⟩
  dsimp only
  refine wpS_bind (wpS_mono (wpS_forRange (I := fun x c st' => CI f n x st c st') (Q := fun c st' => CI f n n st c st') ?_ (fun _ _ q => ?_) ⟨_, _, c, Nat.le_trans (Nat.sub_le _ _) c.len⟩) ?_)
  ·rintro x _ _ _ hx ⟨lo, hi, c, h'⟩
   have := c.le
   have := c.len
   dsimp only
   by_cases d : lo ≥ hi
   ·rw [if_pos d]
    exact wpS_pure ⟨_, _, c, ar0 d⟩
   ·rw [if_neg d]
    refine wpS_bind (wpS_ask hO hk G (Nat.lt_of_lt_of_le (ar1 d) c.len) ?_)
    dsimp only
    cases q : f (lo + (hi - lo) / 2) with
    | true => exact wpS_pure ⟨_, _, ⟨ar1 d, c.len, fun i hi' => G.mono i _ (Nat.le_of_lt_succ hi') (Nat.lt_of_lt_of_le (ar1 d) c.len) q, c.no⟩, arx (Nat.le_add_right _ _) (ar1 d) h'⟩
    | false =>
     refine wpS_pure ⟨_, _, ⟨Nat.le_add_right _ _, Nat.le_trans (Nat.le_of_lt (ar1 d)) c.len, c.yes, fun i hi' hn => ?_⟩, arl (Nat.le_add_right _ _) (ar1 d) h'⟩
     cases q' : f i with
     | false => rfl
     | true => rw [G.mono _ i hi' hn q'] at q; cases q
  ·rwa [Nat.max_eq_right (Nat.zero_le n)] at q
  ·rintro _ _ ⟨lo, hi, c, h'⟩
   have : lo = hi := Nat.le_antisymm c.le (Nat.le_of_sub_eq_zero (Nat.le_zero.mp (Nat.sub_self n ▸ h')))
   subst this
   exact wpS_pure (h _ c)
end
end SR
end
section
namespace SR
section
variable {prog : Program} {w : World} {A : Around} {E : Value → Shared → Prop} {s : Shared} {κ : PyProof.Rows.KeyKind}
noncomputable def le (κ : PyProof.Rows.KeyKind) (p q : Keyed) : Prop := κ.kle (kp κ p) (kp κ q)
noncomputable def Has (κ : PyProof.Rows.KeyKind) (l : List Keyed) : Prop := ∀ p ∈ l, ∃ a, κ.keyOf p.1 = some a
theorem le_trans {p q r : Keyed} (h1 : le κ p q) (h2 : le κ q r) : le κ p r := KeyOrd.kle_trans h1 h2
theorem le_refl (p : Keyed) : le κ p p := KeyOrd.kle_refl _
theorem ask_rt {key p : Keyed} (h : ask κ false key p = true) : le κ p key := by
 unfold ask at h
 rw [if_neg (by decide)] at h
 unfold le KeyOrd.kle
 simpa using h
theorem ask_rf {key p : Keyed} (h : ask κ false key p = false) : le κ key p := by
 unfold ask at h
 rw [if_neg (by decide)] at h
 exact KeyOrd.kle_of_klt (show κ.blt _ _ = true by simpa using h)
theorem ask_lt {key p : Keyed} (h : ask κ true key p = true) : le κ p key := by
 unfold ask at h
 rw [if_pos rfl] at h
 exact KeyOrd.kle_of_klt h
theorem ask_lf {key p : Keyed} (h : ask κ true key p = false) : le κ key p := by
 unfold ask at h
 rwa [if_pos rfl] at h
theorem ask_mono {left : Bool} {key p q : Keyed} (h : le κ p q) (hq : ask κ left key q = true) : ask κ left key p = true := by
 cases left with
 | true =>
  unfold ask at hq ⊢
  rw [if_pos rfl] at hq ⊢
  exact KeyOrd.klt_of_kle_of_klt h hq
 | false =>
  have h2 := le_trans h (ask_rt hq)
  unfold ask
  rw [if_neg (by decide)]
  unfold le KeyOrd.kle at h2
  rw [h2]; rfl
theorem wpS_gal {left : Bool} {key : Keyed} {arr : Array Keyed} {base n hint : Nat} {st : SortSt} {Q : Option Nat → SortSt → Prop} (L : List Keyed) (hO : κ.OneLt) (hk : kindOf st = oneType') (hL : (arr.toList.drop base).take n = L) (hn : L.length = n)
  (hkey : ∃ a, κ.keyOf key.1 = some a) (hall : Has κ L) (hs : L.Pairwise (le κ)) (hh : hint < n)
  (h : ∀ k, k ≤ n → (∀ p ∈ L.take k, ask κ left key p = true) → (∀ p ∈ L.drop k, ask κ left key p = false) → Q (some k) st) : wpS (model prog w) A E s (gallop' left key arr base n hint) Q st := by
 have hat : ∀ (i : Nat) (p : Keyed), L[i]? = some p → (L[i]?.map (ask κ left key)).getD false = ask κ left key p := fun i p e => by rw [e]; rfl
 refine wpS_gallop (f := fun i => (L[i]?.map (ask κ left key)).getD false) hO hk ⟨hkey, fun i hi => ?_, fun i j hij hj e => ?_⟩ hh fun k c => h k c.len (fun p hp => ?_) fun p hp => ?_
 ·have hi' : i < L.length := by rwa [hn]
  refine ⟨L[i], ?_, hall _ (List.getElem_mem hi'), hat i _ (List.getElem?_eq_getElem hi')⟩
  rw [← Array.getElem?_toList, ← List.getElem?_drop, ← List.getElem?_eq_getElem hi', ← hL, List.getElem?_take, if_pos hi]
 ·have hj' : j < L.length := by rwa [hn]
  have hi' : i < L.length := Nat.lt_of_le_of_lt hij hj'
  rw [hat j _ (List.getElem?_eq_getElem hj')] at e
  rw [hat i _ (List.getElem?_eq_getElem hi')]
  rcases Nat.eq_or_lt_of_le hij with q | q
  ·subst q; exact e
  ·exact ask_mono (List.pairwise_iff_getElem.mp hs i j hi' hj' q) e
 ·obtain ⟨i, e⟩ := List.mem_iff_getElem?.mp hp
  rw [List.getElem?_take] at e
  split at e
  ·rename_i q
   have := c.yes i q
   rwa [hat i p e] at this
  ·cases e
 ·obtain ⟨i, e⟩ := List.mem_iff_getElem?.mp hp
  rw [List.getElem?_drop] at e
  have hl : k + i < n := by rw [← hn]; exact (List.getElem?_eq_some_iff.mp e).1
  have := c.no (k + i) (Nat.le_add_right _ _) hl
  rwa [hat _ p e] at this
structure Srt (r : Keyed → Keyed → Prop) (tot l : List Keyed) : Prop where
 perm : l.Perm tot
 srt : l.Pairwise r
structure Mg (r : Keyed → Keyed → Prop) (tot out P R : List Keyed) : Prop where
 perm : (out ++ (P ++ R)).Perm tot
 so : out.Pairwise r
 oP : ∀ x ∈ out, ∀ y ∈ P, r x y
 oR : ∀ x ∈ out, ∀ y ∈ R, r x y
 sP : P.Pairwise r
 sR : R.Pairwise r
variable {r : Keyed → Keyed → Prop} {tot out P P' R R' : List Keyed}
theorem Mg.swap (m : Mg r tot out P R) : Mg r tot out R P := ⟨(List.perm_append_comm.append_left out).trans m.perm, m.so, m.oR, m.oP, m.sR, m.sP⟩
theorem Mg.left (m : Mg r tot out (P ++ P') R) (h : ∀ x ∈ P, ∀ y ∈ R, r x y) : Mg r tot (out ++ P) P' R := by
 have s := List.pairwise_append.mp m.sP
 refine ⟨by have := m.perm; rwa [List.append_assoc, ← List.append_assoc P], List.pairwise_append.mpr ⟨m.so, s.1, fun x hx y hy => m.oP x hx y (List.mem_append_left _ hy)⟩, fun x hx y hy => ?_, fun x hx y hy => ?_, s.2.1, m.sR⟩
 ·rcases List.mem_append.mp hx with hx | hx
  ·exact m.oP x hx y (List.mem_append_right _ hy)
  ·exact s.2.2 x hx y hy
 ·rcases List.mem_append.mp hx with hx | hx
  ·exact m.oR x hx y hy
  ·exact h x hx y hy
theorem Mg.fin (m : Mg r tot out P R) (h : ∀ x ∈ P, ∀ y ∈ R, r x y) : Srt r tot (out ++ P ++ R) :=
 ⟨by rw [List.append_assoc]; exact m.perm, List.pairwise_append.mpr ⟨List.pairwise_append.mpr ⟨m.so, m.sP, m.oP⟩, m.sR, fun x hx y hy => (List.mem_append.mp hx).elim (fun q => m.oR x q y hy) fun q => h x q y hy⟩⟩
structure Same (st0 st : SortSt) : Prop where
 k : kindOf st = kindOf st0
 a : arrOf st = arrOf st0
 p : pendingOf st = pendingOf st0
 f : failedOf st = failedOf st0
theorem wpS_ite {c : Prop} [Decidable c] {α : Type} {m₁ m₂ : StateT SortSt Sem α} {M : Model} {st : SortSt} {Q : α → SortSt → Prop} (h1 : c → wpS M A E s m₁ Q st) (h2 : ¬ c → wpS M A E s m₂ Q st) : wpS M A E s (if c then m₁ else m₂) Q st := by
 by_cases h : c
 ·rw [if_pos h]; exact h1 h
 ·rw [if_neg h]; exact h2 h
noncomputable def G (κ : PyProof.Rows.KeyKind) (tot : List Keyed) (X Y out : Array Keyed) (i j : Nat) : Prop := Mg (le κ) tot out.toList (X.toList.drop i) (Y.toList.drop j)
variable {X Y o a b : Array Keyed} {i j : Nat}
theorem G.swap (m : G κ tot X Y o i j) : G κ tot Y X o j i := Mg.swap m
theorem drop_one (X : Array Keyed) {i : Nat} (h : i < X.size) : X.toList.drop i = [X[i]] ++ X.toList.drop (i + 1) := List.drop_eq_getElem_cons (l := X.toList) h
theorem G.one (m : G κ tot X Y o i j) (h : i < X.size) (hl : ∀ y ∈ Y.toList.drop j, le κ X[i] y) : G κ tot X Y (o.push X[i]) (i + 1) j := by
 unfold G at m ⊢
 rw [drop_one X h] at m
 rw [Array.toList_push]
 exact m.left fun x hx y hy => by cases List.mem_singleton.mp hx; exact hl y hy
theorem G.some (m : G κ tot X Y o i j) (k : Nat) (hl : ∀ x ∈ (X.toList.drop i).take k, ∀ y ∈ Y.toList.drop j, le κ x y) : G κ tot X Y (o ++ X.extract i (i + k)) (i + k) j := by
 unfold G at m ⊢
 rw [← List.take_append_drop k (X.toList.drop i), List.drop_drop] at m
 rw [Array.toList_append, Array.toList_extract, List.extract_eq_take_drop, Nat.add_sub_cancel_left]
 exact m.left hl
theorem ext_all (X : Array Keyed) (i : Nat) : (X.extract i X.size).toList = X.toList.drop i := by
 rw [Array.toList_extract, List.extract_eq_take_drop]
 exact List.take_of_length_le (by rw [List.length_drop]; exact Nat.le_refl _)
theorem G.fin (m : G κ tot X Y o i j) (h : ∀ x ∈ X.toList.drop i, ∀ y ∈ Y.toList.drop j, le κ x y) : Srt (le κ) tot (o ++ X.extract i X.size ++ Y.extract j Y.size).toList := by
 rw [Array.toList_append, Array.toList_append, ext_all, ext_all]
 exact Mg.fin m h
theorem drop_end (X : Array Keyed) {i : Nat} (h : i = X.size) : X.toList.drop i = [] := by
 subst h; exact List.drop_length
theorem drop_last (X : Array Keyed) {i : Nat} (h : i + 1 = X.size) : X.toList.drop i = [X[X.size - 1]] := by
 have e : i = X.size - 1 := Nat.eq_sub_of_add_eq h
 subst e
 rw [drop_one X (Nat.lt_of_lt_of_eq (Nat.lt_succ_self _) h), drop_end X h]
 rfl
theorem pw_head {l : List Keyed} {p x : Keyed} (h : (p :: l).Pairwise (le κ)) (hx : x ∈ p :: l) : le κ p x := by
 rcases List.mem_cons.mp hx with rfl | hx
 ·exact le_refl _
 ·exact (List.pairwise_cons.mp h).1 _ hx
theorem G.head (m : G κ tot X Y o i j) (h : i < X.size) : ∀ x ∈ X.toList.drop i, le κ X[i] x := fun x hx => by
 have := m.sP
 rw [drop_one X h] at this hx
 exact pw_head this hx
structure Two (κ : PyProof.Rows.KeyKind) (a b : Array Keyed) : Prop where
 ha : Has κ a.toList
 hb : Has κ b.toList
 sa : a.toList.Pairwise (le κ)
 sb : b.toList.Pairwise (le κ)
 na : 0 < a.size
 nb : 0 < b.size
 first : ∀ x ∈ a.toList, le κ b[0] x
 last : ∀ x ∈ b.toList, le κ x (a[a.size - 1])
theorem Has.at {X : Array Keyed} {i : Nat} (h : Has κ X.toList) (hi : i < X.size) : ∃ a, κ.keyOf X[i].1 = some a := h _ (Array.getElem_mem_toList hi)
theorem Same.refl {st : SortSt} : Same st st := ⟨rfl, rfl, rfl, rfl⟩
theorem Same.gallop {st0 st : SortSt} (s : Same st0 st) (g : Nat) : Same st0 (SortSt.mk' (kindOf st) (arrOf st) (pendingOf st) g (failedOf st)) := ⟨s.k, s.a, s.p, s.f⟩
abbrev T5 := Option (Array Keyed) × Array Keyed × Nat × Nat × Nat
abbrev T6 := Option (Array Keyed) × Array Keyed × Nat × Nat × Nat × Nat
abbrev T7 := Option (Array Keyed) × Array Keyed × Nat × Nat × Nat × Nat × Nat
variable {st0 : SortSt}
structure LS (κ : PyProof.Rows.KeyKind) (a b : Array Keyed) (st0 : SortSt) (out : Array Keyed) (ia ib : Nat) (st : SortSt) : Prop where
 m : G κ (a.toList ++ b.toList) a b out ia ib
 ha : ia + 1 < a.size
 hb : ib < b.size
 s : Same st0 st
structure FS (κ : PyProof.Rows.KeyKind) (a b : Array Keyed) (st0 : SortSt) (r : Array Keyed) (st : SortSt) : Prop where
 h : Srt (le κ) (a.toList ++ b.toList) r.toList
 s : Same st0 st
inductive OI (κ : PyProof.Rows.KeyKind) (a b : Array Keyed) (st0 : SortSt) (x : Nat) : T5 → SortSt → Prop
 | mk {out : Array Keyed} {ia ib g : Nat} {st : SortSt} (l : LS κ a b st0 out ia ib st) (h : x < ia + ib) : OI κ a b st0 x (none, out, ia, ib, g) st
inductive OQ (κ : PyProof.Rows.KeyKind) (a b : Array Keyed) (st0 : SortSt) : T5 → SortSt → Prop
 | mk {r out : Array Keyed} {ia ib g : Nat} {st : SortSt} (f : FS κ a b st0 r st) : OQ κ a b st0 (some r, out, ia, ib, g) st
inductive I1 (κ : PyProof.Rows.KeyKind) (a b : Array Keyed) (st0 : SortSt) (x p : Nat) : T6 → SortSt → Prop
 | mk {out : Array Keyed} {ia ib ac bc : Nat} {st : SortSt} (l : LS κ a b st0 out ia ib st) (h : p + min x 1 ≤ ia + ib) : I1 κ a b st0 x p (none, out, ia, ib, ac, bc) st
inductive Q1 (κ : PyProof.Rows.KeyKind) (a b : Array Keyed) (st0 : SortSt) (p : Nat) : T6 → SortSt → Prop
 | fin {r out : Array Keyed} {ia ib ac bc : Nat} {st : SortSt} (f : FS κ a b st0 r st) : Q1 κ a b st0 p (some r, out, ia, ib, ac, bc) st
 | go {out : Array Keyed} {ia ib ac bc : Nat} {st : SortSt} (l : LS κ a b st0 out ia ib st) (h : p < ia + ib) : Q1 κ a b st0 p (none, out, ia, ib, ac, bc) st
inductive Q2 (κ : PyProof.Rows.KeyKind) (a b : Array Keyed) (st0 : SortSt) (p : Nat) : T7 → SortSt → Prop
 | fin {r out : Array Keyed} {ia ib g ac bc : Nat} {st : SortSt} (f : FS κ a b st0 r st) : Q2 κ a b st0 p (some r, out, ia, ib, g, ac, bc) st
 | go {out : Array Keyed} {ia ib g ac bc : Nat} {st : SortSt} (l : LS κ a b st0 out ia ib st) (h : p ≤ ia + ib) : Q2 κ a b st0 p (none, out, ia, ib, g, ac, bc) st
inductive I2 (κ : PyProof.Rows.KeyKind) (a b : Array Keyed) (st0 : SortSt) (p : Nat) : T7 → SortSt → Prop
 | mk {out : Array Keyed} {ia ib g ac bc : Nat} {st : SortSt} (l : LS κ a b st0 out ia ib st) (h : p ≤ ia + ib) : I2 κ a b st0 p (none, out, ia, ib, g, ac, bc) st
inductive P2 (κ : PyProof.Rows.KeyKind) (a b : Array Keyed) (st0 : SortSt) (p : Nat) : ForInStep T7 → SortSt → Prop
 | fin {r out : Array Keyed} {ia ib g ac bc : Nat} {st : SortSt} (f : FS κ a b st0 r st) : P2 κ a b st0 p (.done (some r, out, ia, ib, g, ac, bc)) st
 | brk {out : Array Keyed} {ia ib g ac bc : Nat} {st : SortSt} (l : LS κ a b st0 out ia ib st) (h : p ≤ ia + ib) : P2 κ a b st0 p (.done (none, out, ia, ib, g, ac, bc)) st
 | go {out : Array Keyed} {ia ib g ac bc : Nat} {st : SortSt} (l : LS κ a b st0 out ia ib st) (h : p ≤ ia + ib) : P2 κ a b st0 p (.yield (none, out, ia, ib, g, ac, bc)) st
theorem lo_done (m : G κ (a.toList ++ b.toList) a b o i j) {st : SortSt} (s : Same st0 st) (h : i = a.size ∨ j = b.size) : FS κ a b st0 (o ++ a.extract i a.size ++ b.extract j b.size) st := by
 refine ⟨m.fin fun x hx y hy => ?_, s⟩
 rcases h with h | h
 ·rw [drop_end a h] at hx; cases hx
 ·rw [drop_end b h] at hy; cases hy
theorem lo_last (T : Two κ a b) (m : G κ (a.toList ++ b.toList) a b o i j) {st : SortSt} (s : Same st0 st) (h : i + 1 = a.size) : FS κ a b st0 (o ++ b.extract j b.size ++ a.extract i a.size) st := by
 refine ⟨m.swap.fin fun x hx y hy => ?_, s⟩
 rw [drop_last a h] at hy
 cases List.mem_singleton.mp hy
 exact T.last _ (List.mem_of_mem_drop hx)
theorem wpS_mergeLo {st : SortSt} {Q : Array Keyed → SortSt → Prop} (hO : κ.OneLt) (hk : kindOf st = oneType') (T : Two κ a b)
  (h : ∀ l st', FS κ a b st l st' → Q l st') : wpS (model prog w) A E s (mergeLo' a b) Q st := by
 refine wpS_bind (wpS_lift (wpAny_rule ⟨rfl, ?_⟩))
 refine wpS_bind (wpS_elem (Array.getElem?_eq_getElem T.nb) ?_)
 have m0 : G κ (a.toList ++ b.toList) a b #[b[0]'T.nb] 0 1 := by
  unfold G
  have e : b.toList = [b[0]'T.nb] ++ b.toList.drop 1 := drop_one b T.nb
  refine ⟨?_, List.pairwise_singleton _ _, fun x hx y hy => ?_, fun x hx y hy => ?_, T.sa, ?_⟩
  ·rw [List.drop_zero]
   refine (List.perm_append_comm_assoc _ _ _).trans ?_
   rw [← e]
  ·cases List.mem_singleton.mp hx
   exact T.first _ hy
  ·cases List.mem_singleton.mp hx
   have := T.sb
   rw [e] at this
   exact pw_head this (List.mem_cons_of_mem _ hy)
  ·exact T.sb.sublist (List.drop_sublist _ _)
 refine wpS_ite (fun e => wpS_pure (h _ _ (lo_done m0 .refl (.inr (eq_of_beq e))))) fun e1 => wpS_ite (fun e => wpS_pure (h _ _ (lo_last T m0 .refl (eq_of_beq e)))) fun e2 => wpS_bind (wpS_get ?_)
 have e1 : ¬ 1 = b.size := mt beq_iff_eq.mpr e1
 have e2 : ¬ 0 + 1 = a.size := mt beq_iff_eq.mpr e2
 have na := T.na
 have nb := T.nb
 refine wpS_bind (wpS_mono (wpS_forRange (I := fun x c st' => OI κ a b st x c st') (Q := fun c st' => OQ κ a b st c st') ?_ ?_ (.mk ⟨m0, Nat.lt_of_le_of_ne na e2, Nat.lt_of_le_of_ne nb e1, .refl⟩ Nat.one_pos)) ?_)
 ·rintro x _ _ _ hn @⟨_, ia0, ib0, g0, _, l, hx⟩
  refine wpS_bind (wpS_mono (wpS_forRange (I := fun x c st' => I1 κ a b st x (ia0 + ib0) c st') (Q := fun c st' => Q1 κ a b st (ia0 + ib0) c st') ?_ ?_ (.mk l (Nat.le_refl _))) ?_)
  ·rintro y _ _ _ hy @⟨out, ia, ib, _, _, _, l, hx⟩
   have ha' : ia < a.size := Nat.lt_of_succ_lt l.ha
   have hb' := l.hb
   have p1 : ia0 + ib0 < ia + (ib + 1) := Nat.lt_succ_of_le (Nat.le_trans (Nat.le_add_right _ _) hx)
   have p2 : ia0 + ib0 + min (y + 1) 1 ≤ ia + (ib + 1) := Nat.le_trans (Nat.add_le_add_left (Nat.min_le_right _ _) _) p1
   have p3 : ia0 + ib0 < ia + 1 + ib := Nat.lt_of_lt_of_eq p1 (Nat.add_right_comm ia 1 ib).symm
   have p4 : ia0 + ib0 + min (y + 1) 1 ≤ ia + 1 + ib := Nat.le_trans (Nat.add_le_add_left (Nat.min_le_right _ _) _) p3
   refine wpS_bind (wpS_elem (Array.getElem?_eq_getElem l.hb) ?_)
   refine wpS_bind (wpS_elem (Array.getElem?_eq_getElem ha') ?_)
   refine wpS_bind (wpS_lt hO (l.s.k.trans hk) (T.hb.at l.hb) (T.ha.at ha') ?_)
   refine wpS_ite (fun e => wpS_bind (wpS_elem (Array.getElem?_eq_getElem l.hb) ?_)) fun e => wpS_bind (wpS_elem (Array.getElem?_eq_getElem ha') ?_)
   ·have m := (l.m.swap.one l.hb fun y hy => le_trans (KeyOrd.kle_of_klt e) (l.m.head ha' y hy)).swap
    refine wpS_ite (fun q => wpS_pure (Q1.fin (lo_done m l.s (.inr (eq_of_beq q))))) fun q => ?_
    have q : ib + 1 < b.size := Nat.lt_of_le_of_ne l.hb (mt beq_iff_eq.mpr q)
    exact wpS_ite (fun _ => wpS_pure (Q1.go ⟨m, l.ha, q, l.s⟩ p1)) fun _ => wpS_pure (I1.mk ⟨m, l.ha, q, l.s⟩ p2)
   ·have e : le κ (a[ia]'ha') (b[ib]'hb') := by unfold le KeyOrd.kle; simpa using e
    have m := l.m.one ha' fun y hy => le_trans e (l.m.swap.head l.hb y hy)
    refine wpS_ite (fun q => wpS_pure (Q1.fin (lo_last T m l.s (eq_of_beq q)))) fun q => ?_
    have q : ia + 1 + 1 < a.size := Nat.lt_of_le_of_ne l.ha (mt beq_iff_eq.mpr q)
    exact wpS_ite (fun _ => wpS_pure (Q1.go ⟨m, q, l.hb, l.s⟩ p3)) fun _ => wpS_pure (I1.mk ⟨m, q, l.hb, l.s⟩ p4)
  ·rintro _ _ ⟨l, hx⟩
   exact .go l (Nat.lt_of_lt_of_le (Nat.lt_add_of_pos_right (Nat.lt_min.mpr ⟨Nat.lt_of_lt_of_le (Nat.lt_of_lt_of_le na (Nat.le_add_right _ _)) (Nat.le_max_right _ _), Nat.one_pos⟩)) hx)
  ·rintro _ _ q
   cases q with
   | fin f => exact wpS_pure (.mk f)
   | @go out' ia' ib' ac' bc' st2 l h1 =>
    refine wpS_bind (wpS_lift (wpAny_rule ⟨rfl, ?_⟩))
    refine wpS_bind (wpS_mono (wpS_forRange (I := fun x c st' => I2 κ a b st (ia' + ib') c st') (Q := fun c st' => Q2 κ a b st (ia' + ib') c st') ?_ (fun _ _ ⟨l, h⟩ => .go l h) (.mk l (Nat.le_refl _))) ?_)
    ·rintro y _ st1 _ _ @⟨out, ia, ib, g, ac, bc, _, l, hx⟩
     refine wpS_mono (Q := P2 κ a b st (ia' + ib')) ?_ fun r st' q => by
      cases q with
      | fin f => exact Q2.fin f
      | brk l h => exact Q2.go l h
      | go l h => exact I2.mk l h
     extract_lets _ _ _ _ _ _ _ _ _ _ _ _ jp _
     have hj : ∀ g, wpS (model prog w) A E s (jp () g) (P2 κ a b st (ia' + ib')) st1 := fun g => by
      refine wpS_bind (wpS_modify ?_)
      refine wpS_bind (wpS_elem (Array.getElem?_eq_getElem l.hb) ?_)
      refine wpS_bind (wpS_gal (a.toList.drop ia) hO (l.s.k.trans hk) (List.take_of_length_le (by rw [List.length_drop]; exact Nat.le_refl _)) (by rw [List.length_drop]; rfl) (T.hb.at l.hb) (fun p hp => T.ha p (List.mem_of_mem_drop hp)) (T.sa.sublist (List.drop_sublist _ _)) (Nat.sub_pos_of_lt (Nat.lt_of_succ_lt l.ha)) fun k hk' yes no => ?_)
      have sm := l.s.gallop g
      rw [List.drop_drop] at no
      dsimp -zeta only
      extract_lets _ jp2
      have hj2 : ∀ o i, G κ (a.toList ++ b.toList) a b o i ib → i + 1 < a.size → ia ≤ i → (∀ x ∈ a.toList.drop i, le κ (b[ib]'l.hb) x) → wpS (model prog w) A E s (jp2 () o i) (P2 κ a b st (ia' + ib')) _ := fun o i m hi hii hl => by
       refine wpS_bind (wpS_elem (Array.getElem?_eq_getElem l.hb) ?_)
       have m := (m.swap.one l.hb hl).swap
       refine wpS_ite (fun q => wpS_pure (P2.fin (lo_done m sm (.inr (eq_of_beq q))))) fun q => ?_
       have hb1 : ib + 1 < b.size := Nat.lt_of_le_of_ne l.hb (mt beq_iff_eq.mpr q)
       have hi' : i < a.size := Nat.lt_of_succ_lt hi
       refine wpS_bind (wpS_elem (Array.getElem?_eq_getElem hi') ?_)
       refine wpS_bind (wpS_gal (b.toList.drop (ib + 1)) hO (sm.k.trans hk) (List.take_of_length_le (by rw [List.length_drop]; exact Nat.le_refl _)) (by rw [List.length_drop]; rfl) (T.ha.at hi') (fun p hp => T.hb p (List.mem_of_mem_drop hp)) (T.sb.sublist (List.drop_sublist _ _)) (Nat.sub_pos_of_lt hb1) fun k hk' yes no => ?_)
       rw [List.drop_drop] at no
       dsimp -zeta only
       extract_lets _ _ jp3
       have hj3 : ∀ o j, G κ (a.toList ++ b.toList) a b o i j → j < b.size → ib + 1 ≤ j → (∀ y ∈ b.toList.drop j, le κ (a[i]'hi') y) → wpS (model prog w) A E s (jp3 () o j) (P2 κ a b st (ia' + ib')) _ := fun o j m hj hjj hl => by
        refine wpS_bind (wpS_elem (Array.getElem?_eq_getElem hi') ?_)
        have m := m.one hi' hl
        refine wpS_ite (fun q => wpS_pure (P2.fin (lo_last T m sm (eq_of_beq q)))) fun q => ?_
        have q : i + 1 + 1 < a.size := Nat.lt_of_le_of_ne hi (mt beq_iff_eq.mpr q)
        have p1 : ia' + ib' ≤ i + 1 + j := Nat.le_trans hx (Nat.add_le_add (Nat.le_trans hii (Nat.le_succ i)) (Nat.le_trans (Nat.le_succ ib) hjj))
        exact wpS_ite (fun _ => wpS_pure (P2.brk ⟨m, q, hj, sm⟩ p1)) fun _ => wpS_pure (P2.go ⟨m, q, hj, sm⟩ p1)
       refine wpS_ite (fun c => ?_) fun c => ?_
       ·have m := (m.swap.some k fun y hy x hx => le_trans (ask_lt (yes y hy)) (m.head hi' x hx)).swap
        refine wpS_ite (fun q => wpS_pure (P2.fin (lo_done m sm (.inr (eq_of_beq q))))) fun q => ?_
        exact hj3 _ _ m (Nat.lt_of_le_of_ne (Nat.add_le_of_le_sub' (Nat.le_of_lt hb1) hk') (mt beq_iff_eq.mpr q)) (Nat.le_add_right _ _) fun y hy => ask_lf (no y hy)
       ·have : k = 0 := Nat.eq_zero_of_not_pos c
        subst this
        exact hj3 _ _ m hb1 (Nat.le_refl _) fun y hy => ask_lf (no y hy)
      refine wpS_ite (fun c => ?_) fun c => ?_
      ·have m := l.m.some k fun x hx y hy => le_trans (ask_rt (yes x hx)) (l.m.swap.head l.hb y hy)
       refine wpS_ite (fun q => wpS_pure (P2.fin (lo_last T m sm (eq_of_beq q)))) fun q => wpS_ite (fun q => wpS_pure (P2.fin (lo_done m sm (.inl (eq_of_beq q))))) fun q' => ?_
       have q : ¬ ia + k + 1 = a.size := mt beq_iff_eq.mpr q
       have q' : ¬ ia + k = a.size := mt beq_iff_eq.mpr q'
       have hk' : k ≤ a.size - ia := hk'
       exact hj2 _ _ m (Nat.lt_of_le_of_ne (Nat.lt_of_le_of_ne (Nat.add_le_of_le_sub' (Nat.le_of_lt (Nat.lt_of_succ_lt l.ha)) hk') q') q) (Nat.le_add_right _ _) fun x hx => ask_rf (no x hx)
      ·have : k = 0 := Nat.eq_zero_of_not_pos c
       subst this
       exact hj2 _ _ l.m l.ha (Nat.le_refl _) fun x hx => ask_rf (no x hx)
     exact wpS_ite (fun _ => hj _) fun _ => hj _
    ·rintro _ _ q
     cases q with
     | fin f => exact wpS_pure (.mk f)
     | @go o2 ia2 ib2 g2 _ _ _ l h2 => exact wpS_bind (wpS_modify (wpS_pure (OI.mk (ia := ia2) (ib := ib2) ⟨l.m, l.ha, l.hb, l.s.gallop _⟩ (Nat.lt_of_lt_of_le (Nat.lt_of_le_of_lt hx h1) h2))))
 ·rintro _ _ ⟨l, hx⟩
  exact absurd hx (Nat.not_lt.mpr (Nat.le_trans (Nat.add_le_add (Nat.le_of_lt (Nat.lt_of_succ_lt l.ha)) (Nat.le_of_lt l.hb)) (Nat.le_max_right _ _)))
 ·rintro _ _ ⟨f⟩
  exact wpS_pure (h _ _ f)
end
end SR
end
section
namespace SR
section
variable {prog : Program} {w : World} {A : Around} {E : Value → Shared → Prop} {s : Shared} {κ : PyProof.Rows.KeyKind} {tot : List Keyed} {X Y o a b : Array Keyed} {i j : Nat} {st0 : SortSt}
noncomputable def H (κ : PyProof.Rows.KeyKind) (tot : List Keyed) (X Y out : Array Keyed) (i j : Nat) : Prop := Mg (fun p q => le κ q p) tot out.toList (X.toList.take i).reverse (Y.toList.take j).reverse
theorem H.swap (m : H κ tot X Y o i j) : H κ tot Y X o j i := Mg.swap m
theorem take_one (X : Array Keyed) {i : Nat} (h0 : 0 < i) (h : i - 1 < X.size) : (X.toList.take i).reverse = [X[i - 1]] ++ (X.toList.take (i - 1)).reverse := by
 cases i with
 | zero => cases h0
 | succ i =>
  show (X.toList.take (i + 1)).reverse = [X[i]'h] ++ (X.toList.take i).reverse
  rw [List.take_succ_eq_append_getElem (l := X.toList) (i := i) h, List.reverse_append]
  rfl
theorem H.one (m : H κ tot X Y o i j) (h0 : 0 < i) (h : i - 1 < X.size) (hl : ∀ y ∈ Y.toList.take j, le κ y X[i - 1]) : H κ tot X Y (o.push X[i - 1]) (i - 1) j := by
 unfold H at m ⊢
 rw [take_one X h0 h] at m
 rw [Array.toList_push]
 exact m.left fun x hx y hy => by cases List.mem_singleton.mp hx; exact hl y (List.mem_reverse.mp hy)
theorem H.some (m : H κ tot X Y o i j) (k : Nat) (hk : k ≤ i) (hl : ∀ x ∈ (X.toList.take i).drop k, ∀ y ∈ Y.toList.take j, le κ y x) : H κ tot X Y (o ++ (X.extract k i).reverse) k j := by
 unfold H at m ⊢
 have e : (X.toList.take i).reverse = ((X.toList.take i).drop k).reverse ++ (X.toList.take k).reverse := by
  have q : X.toList.take k = (X.toList.take i).take k := by rw [List.take_take, Nat.min_eq_left hk]
  rw [q, ← List.reverse_append, List.take_append_drop]
 have e' : (X.extract k i).reverse.toList = ((X.toList.take i).drop k).reverse := by
  rw [Array.toList_reverse, Array.toList_extract, List.extract_eq_take_drop, List.drop_take]
 rw [e] at m
 rw [Array.toList_append, e']
 exact m.left fun x hx y hy => hl x (List.mem_reverse.mp hx) y (List.mem_reverse.mp hy)
theorem H.fin (m : H κ tot X Y o i j) (h : ∀ x ∈ X.toList.take i, ∀ y ∈ Y.toList.take j, le κ y x) : Srt (le κ) tot (Y.extract 0 j ++ X.extract 0 i ++ o.reverse).toList := by
 have e : (Y.extract 0 j ++ X.extract 0 i ++ o.reverse).toList = (o.toList ++ (X.toList.take i).reverse ++ (Y.toList.take j).reverse).reverse := by
  rw [List.reverse_append, List.reverse_append, List.reverse_reverse, List.reverse_reverse, Array.toList_append, Array.toList_append, Array.toList_reverse, Array.toList_extract, Array.toList_extract, List.extract_eq_take_drop, List.extract_eq_take_drop, List.append_assoc]
  rfl
 have f := Mg.fin m fun x hx y hy => h x (List.mem_reverse.mp hx) y (List.mem_reverse.mp hy)
 rw [e]
 exact ⟨(List.reverse_perm _).trans f.perm, List.pairwise_reverse.mpr f.srt⟩
theorem H.head (m : H κ tot X Y o i j) (h0 : 0 < i) (h : i - 1 < X.size) : ∀ x ∈ X.toList.take i, le κ x X[i - 1] := fun x hx => by
 have := m.sP
 have hx := List.mem_reverse.mpr hx
 rw [take_one X h0 h] at this hx
 rcases List.mem_cons.mp hx with rfl | hx
 ·exact le_refl _
 ·exact (List.pairwise_cons.mp this).1 _ hx
theorem mem_take_one {X : Array Keyed} (h : 0 < X.size) {x : Keyed} (hx : x ∈ X.toList.take 1) : x = X[0] := by
 have := List.mem_reverse.mpr hx
 rw [take_one X Nat.one_pos h] at this
 simpa using this
abbrev U5 := Option (Array Keyed) × Nat × Nat × Array Keyed × Nat
abbrev U6 := Option (Array Keyed) × Nat × Nat × Array Keyed × Nat × Nat
abbrev U7 := Option (Array Keyed) × Nat × Nat × Array Keyed × Nat × Nat × Nat
structure HS (κ : PyProof.Rows.KeyKind) (a b : Array Keyed) (st0 : SortSt) (out : Array Keyed) (na nb : Nat) (st : SortSt) : Prop where
 m : H κ (a.toList ++ b.toList) a b out na nb
 a0 : 0 < na
 ha : na - 1 < a.size
 b0 : 1 < nb
 hb : nb - 1 < b.size
 s : Same st0 st
inductive OI' (κ : PyProof.Rows.KeyKind) (a b : Array Keyed) (st0 : SortSt) (x : Nat) : U5 → SortSt → Prop
 | mk {out : Array Keyed} {na nb g : Nat} {st : SortSt} (l : HS κ a b st0 out na nb st) (h : x + na + nb < a.size + b.size) : OI' κ a b st0 x (none, na, nb, out, g) st
inductive OQ' (κ : PyProof.Rows.KeyKind) (a b : Array Keyed) (st0 : SortSt) : U5 → SortSt → Prop
 | mk {r out : Array Keyed} {na nb g : Nat} {st : SortSt} (f : FS κ a b st0 r st) : OQ' κ a b st0 (some r, na, nb, out, g) st
inductive I1' (κ : PyProof.Rows.KeyKind) (a b : Array Keyed) (st0 : SortSt) (x p : Nat) : U6 → SortSt → Prop
 | mk {out : Array Keyed} {na nb ac bc : Nat} {st : SortSt} (l : HS κ a b st0 out na nb st) (h : na + nb + min x 1 ≤ p) : I1' κ a b st0 x p (none, na, nb, out, ac, bc) st
inductive Q1' (κ : PyProof.Rows.KeyKind) (a b : Array Keyed) (st0 : SortSt) (p : Nat) : U6 → SortSt → Prop
 | fin {r out : Array Keyed} {na nb ac bc : Nat} {st : SortSt} (f : FS κ a b st0 r st) : Q1' κ a b st0 p (some r, na, nb, out, ac, bc) st
 | go {out : Array Keyed} {na nb ac bc : Nat} {st : SortSt} (l : HS κ a b st0 out na nb st) (h : na + nb < p) : Q1' κ a b st0 p (none, na, nb, out, ac, bc) st
inductive Q2' (κ : PyProof.Rows.KeyKind) (a b : Array Keyed) (st0 : SortSt) (p : Nat) : U7 → SortSt → Prop
 | fin {r out : Array Keyed} {na nb g ac bc : Nat} {st : SortSt} (f : FS κ a b st0 r st) : Q2' κ a b st0 p (some r, na, nb, out, g, ac, bc) st
 | go {out : Array Keyed} {na nb g ac bc : Nat} {st : SortSt} (l : HS κ a b st0 out na nb st) (h : na + nb ≤ p) : Q2' κ a b st0 p (none, na, nb, out, g, ac, bc) st
inductive I2' (κ : PyProof.Rows.KeyKind) (a b : Array Keyed) (st0 : SortSt) (p : Nat) : U7 → SortSt → Prop
 | mk {out : Array Keyed} {na nb g ac bc : Nat} {st : SortSt} (l : HS κ a b st0 out na nb st) (h : na + nb ≤ p) : I2' κ a b st0 p (none, na, nb, out, g, ac, bc) st
inductive P2' (κ : PyProof.Rows.KeyKind) (a b : Array Keyed) (st0 : SortSt) (p : Nat) : ForInStep U7 → SortSt → Prop
 | fin {r out : Array Keyed} {na nb g ac bc : Nat} {st : SortSt} (f : FS κ a b st0 r st) : P2' κ a b st0 p (.done (some r, na, nb, out, g, ac, bc)) st
 | brk {out : Array Keyed} {na nb g ac bc : Nat} {st : SortSt} (l : HS κ a b st0 out na nb st) (h : na + nb ≤ p) : P2' κ a b st0 p (.done (none, na, nb, out, g, ac, bc)) st
 | go {out : Array Keyed} {na nb g ac bc : Nat} {st : SortSt} (l : HS κ a b st0 out na nb st) (h : na + nb ≤ p) : P2' κ a b st0 p (.yield (none, na, nb, out, g, ac, bc)) st
theorem hi_done (m : H κ (a.toList ++ b.toList) a b o i j) {st : SortSt} (s : Same st0 st) (h : i = 0 ∨ j = 0) : FS κ a b st0 (a.extract 0 i ++ b.extract 0 j ++ o.reverse) st := by
 refine ⟨m.swap.fin fun y hy x hx => ?_, s⟩
 rcases h with rfl | rfl
 ·cases hx
 ·cases hy
theorem hi_first (T : Two κ a b) (m : H κ (a.toList ++ b.toList) a b o i j) {st : SortSt} (s : Same st0 st) (h : j = 1) : FS κ a b st0 (b.extract 0 j ++ a.extract 0 i ++ o.reverse) st := by
 refine ⟨m.fin fun x hx y hy => ?_, s⟩
 subst h
 rw [mem_take_one T.nb hy]
 exact T.first _ (List.mem_of_mem_take hx)
theorem wpS_mergeHi {st : SortSt} {Q : Array Keyed → SortSt → Prop} (hO : κ.OneLt) (hk : kindOf st = oneType') (T : Two κ a b)
  (h : ∀ l st', FS κ a b st l st' → Q l st') : wpS (model prog w) A E s (mergeHi' a b) Q st := by
 refine wpS_bind (wpS_lift (wpAny_rule ⟨rfl, ?_⟩))
 have ha1 : a.size - 1 < a.size := Nat.sub_lt T.na Nat.one_pos
 refine wpS_bind (wpS_elem (Array.getElem?_eq_getElem ha1) ?_)
 have m0 : H κ (a.toList ++ b.toList) a b #[a[a.size - 1]'ha1] (a.size - 1) b.size := by
  unfold H
  have ea : a.toList.take a.size = a.toList := List.take_of_length_le (Nat.le_refl _)
  have e := take_one a T.na ha1
  rw [ea] at e
  have e2 : b.toList.take b.size = b.toList := List.take_of_length_le (Nat.le_refl _)
  rw [e2]
  have sr := List.pairwise_reverse.mpr T.sa
  rw [e] at sr
  refine ⟨?_, List.pairwise_singleton _ _, fun x hx y hy => ?_, fun x hx y hy => ?_, (List.pairwise_cons.mp sr).2, List.pairwise_reverse.mpr T.sb⟩
  ·rw [← List.append_assoc, ← e]
   exact (List.reverse_perm _).append (List.reverse_perm _)
  ·cases List.mem_singleton.mp hx
   exact (List.pairwise_cons.mp sr).1 _ hy
  ·cases List.mem_singleton.mp hx
   exact T.last _ (List.mem_reverse.mp hy)
 refine wpS_ite (fun e => wpS_pure (h _ _ (hi_done m0 .refl (.inl (eq_of_beq e))))) fun e1 => wpS_ite (fun e => wpS_pure (h _ _ (hi_first T m0 .refl (eq_of_beq e)))) fun e2 => wpS_bind (wpS_get ?_)
 have e1 : ¬ a.size - 1 = 0 := mt beq_iff_eq.mpr e1
 have e2 : ¬ b.size = 1 := mt beq_iff_eq.mpr e2
 have na := T.na
 have nb := T.nb
 refine wpS_bind (wpS_mono (wpS_forRange (I := fun x c st' => OI' κ a b st x c st') (Q := fun c st' => OQ' κ a b st c st') ?_ ?_ (.mk ⟨m0, Nat.pos_of_ne_zero e1, Nat.lt_of_le_of_lt (Nat.sub_le _ _) (Nat.sub_lt na Nat.one_pos), Nat.lt_of_le_of_ne nb (Ne.symm e2), Nat.sub_lt nb Nat.one_pos, .refl⟩ (by rw [Nat.zero_add]; exact Nat.add_lt_add_right (Nat.sub_lt na Nat.one_pos) _))) ?_)
 ·rintro x _ _ _ hn @⟨_, ia0, ib0, g0, _, l, hx⟩
  refine wpS_bind (wpS_mono (wpS_forRange (I := fun x c st' => I1' κ a b st x (ia0 + ib0) c st') (Q := fun c st' => Q1' κ a b st (ia0 + ib0) c st') ?_ ?_ (.mk l (Nat.le_refl _))) ?_)
  ·rintro y _ _ _ hy @⟨out, ia, ib, _, _, _, l, hx⟩
   have a0 := l.a0
   have b0 := l.b0
   have ha' := l.ha
   have hb' := l.hb
   have p1 : ia - 1 + ib < ia0 + ib0 := Nat.lt_of_lt_of_le (Nat.add_lt_add_right (Nat.sub_lt a0 Nat.one_pos) ib) (Nat.le_trans (Nat.le_add_right _ _) hx)
   have p2 : ia - 1 + ib + min (y + 1) 1 ≤ ia0 + ib0 := Nat.le_trans (Nat.add_le_add_left (Nat.min_le_right _ _) _) p1
   have p3 : ia + (ib - 1) < ia0 + ib0 := Nat.lt_of_lt_of_le (Nat.add_lt_add_left (Nat.sub_lt (Nat.lt_of_succ_lt b0) Nat.one_pos) ia) (Nat.le_trans (Nat.le_add_right _ _) hx)
   have p4 : ia + (ib - 1) + min (y + 1) 1 ≤ ia0 + ib0 := Nat.le_trans (Nat.add_le_add_left (Nat.min_le_right _ _) _) p3
   refine wpS_bind (wpS_elem (Array.getElem?_eq_getElem hb') ?_)
   refine wpS_bind (wpS_elem (Array.getElem?_eq_getElem ha') ?_)
   refine wpS_bind (wpS_lt hO (l.s.k.trans hk) (T.hb.at hb') (T.ha.at ha') ?_)
   refine wpS_ite (fun e => wpS_bind (wpS_elem (Array.getElem?_eq_getElem ha') ?_)) fun e => wpS_bind (wpS_elem (Array.getElem?_eq_getElem hb') ?_)
   ·have m := l.m.one a0 ha' fun y hy => le_trans (l.m.swap.head (Nat.lt_of_succ_lt b0) hb' y hy) (KeyOrd.kle_of_klt e)
    refine wpS_ite (fun q => wpS_pure (Q1'.fin (hi_done m l.s (.inl (eq_of_beq q))))) fun q => ?_
    have q : ¬ ia - 1 = 0 := mt beq_iff_eq.mpr q
    have q1 : ia - 1 - 1 < a.size := Nat.lt_of_le_of_lt (Nat.sub_le _ _) ha'
    exact wpS_ite (fun _ => wpS_pure (Q1'.go ⟨m, Nat.pos_of_ne_zero q, q1, b0, hb', l.s⟩ p1)) fun _ => wpS_pure (I1'.mk ⟨m, Nat.pos_of_ne_zero q, q1, b0, hb', l.s⟩ p2)
   ·have e : le κ (a[ia - 1]'ha') (b[ib - 1]'hb') := by unfold le KeyOrd.kle; simpa using e
    have m := (l.m.swap.one (Nat.lt_of_succ_lt b0) hb' fun y hy => le_trans (l.m.head a0 ha' y hy) e).swap
    refine wpS_ite (fun q => wpS_pure (Q1'.fin (hi_first T m l.s (eq_of_beq q)))) fun q => ?_
    have q : ¬ ib - 1 = 1 := mt beq_iff_eq.mpr q
    have q1 : ib - 1 - 1 < b.size := Nat.lt_of_le_of_lt (Nat.sub_le _ _) hb'
    have q2 : 1 < ib - 1 := Nat.lt_of_le_of_ne (Nat.le_sub_one_of_lt b0) (Ne.symm q)
    exact wpS_ite (fun _ => wpS_pure (Q1'.go ⟨m, a0, ha', q2, q1, l.s⟩ p3)) fun _ => wpS_pure (I1'.mk ⟨m, a0, ha', q2, q1, l.s⟩ p4)
  ·rintro _ _ ⟨l, hx⟩
   exact .go l (Nat.lt_of_lt_of_le (Nat.lt_add_of_pos_right (Nat.lt_min.mpr ⟨Nat.lt_of_lt_of_le (Nat.lt_of_lt_of_le na (Nat.le_add_right _ _)) (Nat.le_max_right _ _), Nat.one_pos⟩)) hx)
  ·rintro _ _ q
   cases q with
   | fin f => exact wpS_pure (.mk f)
   | @go out' ia' ib' ac' bc' st2 l h1 =>
    refine wpS_bind (wpS_lift (wpAny_rule ⟨rfl, ?_⟩))
    refine wpS_bind (wpS_mono (wpS_forRange (I := fun x c st' => I2' κ a b st (ia' + ib') c st') (Q := fun c st' => Q2' κ a b st (ia' + ib') c st') ?_ (fun _ _ ⟨l, h⟩ => .go l h) (.mk l (Nat.le_refl _))) ?_)
    ·rintro y _ st1 _ _ @⟨out, ia, ib, g, ac, bc, _, l, hx⟩
     have a0 := l.a0
     have b0 := l.b0
     have b0' := Nat.lt_of_succ_lt b0
     refine wpS_mono (Q := P2' κ a b st (ia' + ib')) ?_ fun r st' q => by
      cases q with
      | fin f => exact Q2'.fin f
      | brk l h => exact Q2'.go l h
      | go l h => exact I2'.mk l h
     extract_lets _ _ _ _ _ _ _ _ _ _ _ _ jp _
     have hj : ∀ g, wpS (model prog w) A E s (jp () g) (P2' κ a b st (ia' + ib')) st1 := fun g => by
      refine wpS_bind (wpS_modify ?_)
      refine wpS_bind (wpS_elem (Array.getElem?_eq_getElem l.hb) ?_)
      refine wpS_bind (wpS_gal (a.toList.take ia) hO (l.s.k.trans hk) rfl (List.length_take_of_le (by rw [Array.length_toList]; exact Nat.le_of_pred_lt l.ha)) (T.hb.at l.hb) (fun p hp => T.ha p (List.mem_of_mem_take hp)) (T.sa.sublist (List.take_sublist _ _)) (Nat.sub_lt a0 Nat.one_pos) fun k hk' yes no => ?_)
      have sm := l.s.gallop g
      rw [List.take_take, Nat.min_eq_left hk'] at yes
      have all : ∀ y ∈ b.toList.take ib, le κ y (b[ib - 1]'l.hb) := l.m.swap.head b0' l.hb
      dsimp -zeta only
      extract_lets _ _ jp2
      have hj2 : ∀ i o, H κ (a.toList ++ b.toList) a b o i ib → 0 < i → i ≤ ia → (∀ x ∈ a.toList.take i, le κ x (b[ib - 1]'l.hb)) → wpS (model prog w) A E s (jp2 () i o) (P2' κ a b st (ia' + ib')) _ := fun i o m hi hii hl => by
       refine wpS_bind (wpS_elem (Array.getElem?_eq_getElem l.hb) ?_)
       have m := (m.swap.one b0' l.hb hl).swap
       refine wpS_ite (fun q => wpS_pure (P2'.fin (hi_first T m sm (eq_of_beq q)))) fun q => ?_
       have q : ¬ ib - 1 = 1 := mt beq_iff_eq.mpr q
       have hi' : i - 1 < a.size := Nat.lt_of_le_of_lt (Nat.sub_le_sub_right hii 1) l.ha
       have hb1 : ib - 1 ≤ b.size := Nat.le_of_lt l.hb
       have hb2 : 1 < ib - 1 := Nat.lt_of_le_of_ne (Nat.le_sub_one_of_lt b0) (Ne.symm q)
       refine wpS_bind (wpS_elem (Array.getElem?_eq_getElem hi') ?_)
       refine wpS_bind (wpS_gal (b.toList.take (ib - 1)) hO (sm.k.trans hk) rfl (List.length_take_of_le hb1) (T.ha.at hi') (fun p hp => T.hb p (List.mem_of_mem_take hp)) (T.sb.sublist (List.take_sublist _ _)) (Nat.sub_lt (Nat.lt_of_succ_lt hb2) Nat.one_pos) fun k hk' yes no => ?_)
       have yes' := yes
       rw [List.take_take, Nat.min_eq_left hk'] at yes'
       dsimp -zeta only
       extract_lets _ _ _ jp3
       have hj3 : ∀ j o, H κ (a.toList ++ b.toList) a b o i j → 1 < j → j ≤ ib - 1 → (∀ y ∈ b.toList.take j, le κ y (a[i - 1]'hi')) → wpS (model prog w) A E s (jp3 () j o) (P2' κ a b st (ia' + ib')) _ := fun j o m hj hjj hl => by
        refine wpS_bind (wpS_elem (Array.getElem?_eq_getElem hi') ?_)
        have m := m.one hi hi' hl
        refine wpS_ite (fun q => wpS_pure (P2'.fin (hi_done m sm (.inl (eq_of_beq q))))) fun q => ?_
        have q : 0 < i - 1 := Nat.pos_of_ne_zero (mt beq_iff_eq.mpr q)
        have p1 : i - 1 + j ≤ ia' + ib' := Nat.le_trans (Nat.add_le_add (Nat.le_trans (Nat.sub_le _ _) hii) (Nat.le_trans hjj (Nat.sub_le _ _))) hx
        have q1 : i - 1 - 1 < a.size := Nat.lt_of_le_of_lt (Nat.sub_le _ _) hi'
        have q2 : j - 1 < b.size := Nat.lt_of_le_of_lt (Nat.le_trans (Nat.sub_le _ _) hjj) l.hb
        exact wpS_ite (fun _ => wpS_pure (P2'.brk ⟨m, q, q1, hj, q2, sm⟩ p1)) fun _ => wpS_pure (P2'.go ⟨m, q, q1, hj, q2, sm⟩ p1)
       refine wpS_ite (fun c => ?_) fun c => ?_
       ·have m := (m.swap.some k hk' fun y hy x hx => le_trans (m.head hi hi' x hx) (ask_lf (no y hy))).swap
        refine wpS_ite (fun q => wpS_pure (P2'.fin (hi_first T m sm (eq_of_beq q)))) fun q => wpS_ite (fun q => wpS_pure (P2'.fin (hi_done m sm (.inr (eq_of_beq q))))) fun q' => ?_
        have q : ¬ k = 1 := mt beq_iff_eq.mpr q
        have q' : ¬ k = 0 := mt beq_iff_eq.mpr q'
        exact hj3 _ _ m (Nat.lt_of_le_of_ne (Nat.pos_of_ne_zero q') (Ne.symm q)) hk' fun y hy => ask_lt (yes' y hy)
       ·have c : ¬ ib - 1 - k > 0 := c
        have c' : k ≤ ib - 1 := hk'
        have : k = ib - 1 := Nat.le_antisymm c' (Nat.le_of_sub_eq_zero (Nat.eq_zero_of_not_pos c))
        subst this
        exact hj3 _ _ m hb2 (Nat.le_refl _) fun y hy => ask_lt (yes' y hy)
      refine wpS_ite (fun c => ?_) fun c => ?_
      ·have m := l.m.some k hk' fun x hx y hy => le_trans (all y hy) (ask_rf (no x hx))
       refine wpS_ite (fun q => wpS_pure (P2'.fin (hi_done m sm (.inl (eq_of_beq q))))) fun q => ?_
       exact hj2 _ _ m (Nat.pos_of_ne_zero (mt beq_iff_eq.mpr q)) hk' fun x hx => ask_rt (yes x hx)
      ·have c : ¬ ia - k > 0 := c
       have c' : k ≤ ia := hk'
       have : k = ia := Nat.le_antisymm c' (Nat.le_of_sub_eq_zero (Nat.eq_zero_of_not_pos c))
       subst this
       exact hj2 _ _ l.m a0 (Nat.le_refl _) fun x hx => ask_rt (yes x hx)
     exact wpS_ite (fun _ => hj _) fun _ => hj _
    ·rintro _ _ q
     cases q with
     | fin f => exact wpS_pure (.mk f)
     | @go o2 ia2 ib2 g2 _ _ _ l h2 => exact wpS_bind (wpS_modify (wpS_pure (OI'.mk (na := ia2) (nb := ib2) ⟨l.m, l.a0, l.ha, l.b0, l.hb, l.s.gallop _⟩ (Nat.lt_of_le_of_lt (by rw [Nat.add_assoc, Nat.add_assoc, Nat.add_comm 1, Nat.add_assoc x ia0]; exact Nat.add_le_add_left (Nat.lt_of_le_of_lt h2 h1) x) hx))))
 ·rintro _ _ ⟨l, hx⟩
  exact absurd hx (Nat.not_lt.mpr (Nat.le_trans (Nat.le_max_right _ _) (Nat.le_trans (Nat.le_add_right _ _) (Nat.le_add_right _ _))))
 ·rintro _ _ ⟨f⟩
  exact wpS_pure (h _ _ f)
end
end SR
end
section
namespace SR
section
variable {prog : Program} {w : World} {A : Around} {E : Value → Shared → Prop} {s : Shared} {κ : PyProof.Rows.KeyKind} {a₀ : Array Keyed} {p : Array (Nat × Nat × Nat)} {lo : Nat} {x0 : Nat → κ.α} {st : SortSt}
structure B (κ : PyProof.Rows.KeyKind) (a₀ : Array Keyed) (p : Array (Nat × Nat × Nat)) (lo : Nat) (x0 : Nat → κ.α) (st : SortSt) : Prop where
 perm : (arrOf st).Perm a₀
 kind : kindOf st = oneType'
 failed : failedOf st = none
 pend : pendingOf st = p
 pre : ∀ i, i < lo → KK κ (arrOf st) i = x0 i
theorem B.size (h : B κ a₀ p lo x0 st) : (arrOf st).size = a₀.size := h.perm.size_eq
noncomputable def sl (κ : PyProof.Rows.KeyKind) (lo : Nat) (st : SortSt) (i : Nat) : κ.α := KK κ (arrOf st) (lo + i)
noncomputable def Sd (κ : PyProof.Rows.KeyKind) (f : Nat → κ.α) (k : Nat) : Prop := ∀ i j, i ≤ j → j < k → κ.kle (f i) (f j)
noncomputable def Nd (κ : PyProof.Rows.KeyKind) (f : Nat → κ.α) (k : Nat) : Prop := ∀ i j, i ≤ j → j < k → κ.kle (f j) (f i)
theorem kk_kp {X : Array Keyed} {i : Nat} (h : i < X.size) : KK κ X i = kp κ X[i] := by
 unfold KK
 rw [Array.getElem?_eq_getElem h]
 rfl
theorem Sd.one {f : Nat → κ.α} : Sd κ f 1 := fun i j h1 h2 => by
 have : i = j := Nat.le_antisymm h1 (Nat.le_trans (Nat.le_of_lt_succ h2) (Nat.zero_le _))
 subst this
 exact KeyOrd.kle_refl _
theorem Nd.one {f : Nat → κ.α} : Nd κ f 1 := fun i j h1 h2 => Sd.one j i (Nat.le_trans (Nat.le_of_lt_succ h2) (Nat.zero_le _)) (Nat.lt_of_le_of_lt h1 h2)
theorem Sd.succ {f : Nat → κ.α} {k : Nat} (h : Sd κ f k) (hk : 1 ≤ k) (e : κ.kle (f (k - 1)) (f k)) : Sd κ f (k + 1) := fun i j h1 h2 => by
 by_cases c : j < k
 ·exact h i j h1 c
 ·have : j = k := Nat.le_antisymm (Nat.le_of_lt_succ h2) (Nat.not_lt.mp c)
  subst this
  by_cases d : i = j
  ·subst d; exact KeyOrd.kle_refl _
  ·exact KeyOrd.kle_trans (h i (j - 1) (Nat.le_sub_one_of_lt (Nat.lt_of_le_of_ne h1 d)) (Nat.sub_lt hk Nat.one_pos)) e
theorem Nd.succ {f : Nat → κ.α} {k : Nat} (h : Nd κ f k) (hk : 1 ≤ k) (e : κ.kle (f k) (f (k - 1))) : Nd κ f (k + 1) := fun i j h1 h2 => by
 by_cases c : j < k
 ·exact h i j h1 c
 ·have : j = k := Nat.le_antisymm (Nat.le_of_lt_succ h2) (Nat.not_lt.mp c)
  subst this
  by_cases d : i = j
  ·subst d; exact KeyOrd.kle_refl _
  ·exact KeyOrd.kle_trans e (h i (j - 1) (Nat.le_sub_one_of_lt (Nat.lt_of_le_of_ne h1 d)) (Nat.sub_lt hk Nat.one_pos))
theorem wpS_ltG {x y i j : Nat} {Q : Option Bool → SortSt → Prop} (hO : κ.OneLt) (h0 : KeysOf κ a₀) (hB : B κ a₀ p lo x0 st) (hi : i = lo + x) (hj : j = lo + y) (hx : lo + x < a₀.size) (hy : lo + y < a₀.size)
  (h : Q (some (κ.blt (sl κ lo st x) (sl κ lo st y))) st) : wpS (model prog w) A E s (ltAt' i j) Q st := by
 subst hi hj
 rw [← hB.size] at hx hy
 unfold sl at h
 rw [kk_kp hx, kk_kp hy] at h
 have key : ∀ {i : Nat} (h : i < (arrOf st).size), ∃ a, κ.keyOf ((arrOf st)[i]).1 = some a := fun h => h0 _ ((Array.perm_iff_toList_perm.mp hB.perm).mem_iff.mp (Array.getElem_mem_toList h))
 exact wpS_bind (wpS_get (wpS_bind (wpS_elem (Array.getElem?_eq_getElem hx) (wpS_bind (wpS_elem (Array.getElem?_eq_getElem hy) (wpS_lt hO hB.kind (key hx) (key hy) h))))))
theorem B.set {X : Array Keyed} (hB : B κ a₀ p lo x0 st) (hp : X.Perm (arrOf st)) (h : ∀ i, i < lo → KK κ X i = KK κ (arrOf st) i) : B κ a₀ p lo x0 (setArr st X) :=
 ⟨hp.trans hB.perm, hB.kind, hB.failed, hB.pend, fun i hi => (h i hi).trans (hB.pre i hi)⟩
theorem B.rev {i j : Nat} (hB : B κ a₀ p lo x0 st) (hi : lo ≤ i) (hj : j ≤ a₀.size) : B κ a₀ p lo x0 (setArr st (mirror (arrOf st) i j ((j - i) / 2))) :=
 hB.set (mirror_perm _ _ _ _) fun k hk => by rw [KK_mirror (by rw [hB.size]; exact hj), if_neg fun q => absurd (Nat.lt_of_lt_of_le hk hi) (Nat.not_lt.mpr q.1)]
theorem B.rev_eq {n m : Nat} (hB : B κ a₀ p lo x0 st) (hn : lo + n ≤ a₀.size) (h : ∀ i, n - m ≤ i → i < n → sl κ lo st i = sl κ lo st (n - 1)) (hm : m ≤ n) (hn1 : 1 ≤ n) (k : Nat) :
  sl κ lo (setArr st (mirror (arrOf st) (lo + n - m) (lo + n) ((lo + n - (lo + n - m)) / 2))) k = sl κ lo st k := by
 unfold sl at h ⊢
 refine KK_mirror_equal (by rw [hB.size]; exact hn) (fun i h1 h2 => ?_) _
 rw [Nat.add_sub_assoc hm lo] at h1
 have li : lo ≤ i := Nat.le_trans (Nat.le_add_right _ _) h1
 have := h (i - lo) (Nat.le_sub_of_add_le (Nat.add_comm lo _ ▸ h1)) (Nat.sub_lt_left_of_lt_add li h2)
 rwa [ar4 li, ← Nat.add_sub_assoc hn1 lo] at this
theorem B.rev_all {n : Nat} (hB : B κ a₀ p lo x0 st) (hn : lo + n ≤ a₀.size) (h : Nd κ (sl κ lo st) n) : Sd κ (sl κ lo (setArr st (mirror (arrOf st) lo (lo + n) ((lo + n - lo) / 2)))) n := fun i j h1 h2 => by
 have e : ∀ k, k < n → sl κ lo (setArr st (mirror (arrOf st) lo (lo + n) ((lo + n - lo) / 2))) k = sl κ lo st (n - 1 - k) := fun k hk => by
  unfold sl
  refine (KK_mirror (by rw [hB.size]; exact hn) _).trans ?_
  have p : 1 ≤ n := Nat.lt_of_le_of_lt (Nat.zero_le _) hk
  rw [if_pos ⟨Nat.le_add_right lo k, Nat.add_lt_add_left hk lo⟩]
  exact congrArg _ (by rw [Nat.add_sub_assoc (Nat.le_trans p (Nat.le_add_left n lo)), Nat.add_sub_add_left, Nat.add_sub_assoc p, Nat.add_sub_assoc (Nat.le_sub_one_of_lt hk)])
 rw [e i (Nat.lt_of_le_of_lt h1 h2), e j h2]
 exact h _ _ (Nat.sub_le_sub_left h1 _) (Nat.lt_of_le_of_lt (Nat.sub_le _ _) (Nat.sub_lt (Nat.lt_of_le_of_lt (Nat.zero_le _) h2) Nat.one_pos))
inductive CA (κ : PyProof.Rows.KeyKind) (lo : Nat) (st : SortSt) (x : Nat) : Option (Option Nat) × Nat → SortSt → Prop
 | mk (h : Sd κ (sl κ lo st) x) : CA κ lo st x (none, x) st
inductive CQ (κ : PyProof.Rows.KeyKind) (lo : Nat) (st : SortSt) (n0 nrem : Nat) : Option (Option Nat) × Nat → SortSt → Prop
 | mk (n : Nat) (h : Sd κ (sl κ lo st) n) (h1 : n0 ≤ n) (h2 : n ≤ nrem) (e : n = nrem ∨ κ.klt (sl κ lo st n) (sl κ lo st (n - 1))) : CQ κ lo st n0 nrem (none, n) st
theorem wpS_asc {F : Nat → Option (Option Nat) × Nat → StateT SortSt Sem (ForInStep (Option (Option Nat) × Nat))} {n0 nrem : Nat} (h1 : 1 ≤ n0) (h2 : n0 ≤ nrem) (hs : Sd κ (sl κ lo st) n0)
  (hF : ∀ (x n : Nat) (Q' : ForInStep (Option (Option Nat) × Nat) → SortSt → Prop), 1 ≤ n → n < nrem → (κ.klt (sl κ lo st n) (sl κ lo st (n - 1)) → Q' (.done (none, n)) st) → (κ.kle (sl κ lo st (n - 1)) (sl κ lo st n) → Q' (.yield (none, n + 1)) st) → wpS (model prog w) A E s (F x (none, n)) Q' st) :
  wpS (model prog w) A E s (forIn [n0:nrem] (none, n0) F) (CQ κ lo st n0 nrem) st := by
 refine wpS_forRange (I := fun x c st' => CA κ lo st x c st') ?_ ?_ ⟨hs⟩
 ·rintro x _ _ h3 h4 ⟨h⟩
  exact hF x x _ (Nat.le_trans h1 h3) h4 (fun e => .mk x h h3 (Nat.le_of_lt h4) (.inr e)) fun e => .mk (h.succ (Nat.le_trans h1 h3) e)
 ·rintro _ _ ⟨h⟩
  rw [Nat.max_eq_right h2] at h ⊢
  exact .mk _ h h2 (Nat.le_refl _) (.inl rfl)
theorem wpS_ask2 {x y i j n : Nat} {α : Type} {m₁ m₂ : StateT SortSt Sem α} {Q : α → SortSt → Prop} {f : Option Bool → StateT SortSt Sem α} (hO : κ.OneLt) (h0 : KeysOf κ a₀) (hB : B κ a₀ p lo x0 st) (hi : i = lo + x) (hj : j = lo + y) (hn : lo + n ≤ a₀.size) (hx : x < n) (hy : y < n)
  (hf : ∀ b, f (some b) = if b = true then m₁ else m₂) (ht : κ.klt (sl κ lo st x) (sl κ lo st y) → wpS (model prog w) A E s m₁ Q st) (hff : κ.kle (sl κ lo st y) (sl κ lo st x) → wpS (model prog w) A E s m₂ Q st) :
  wpS (model prog w) A E s (ltAt' i j >>= f) Q st := by
 refine wpS_bind (wpS_ltG hO h0 hB hi hj (Nat.lt_of_lt_of_le (Nat.add_lt_add_left hx lo) hn) (Nat.lt_of_lt_of_le (Nat.add_lt_add_left hy lo) hn) ?_)
 rw [hf]
 exact wpS_ite ht fun e => hff (show κ.blt _ _ = false by simpa using e)
inductive DI (κ : PyProof.Rows.KeyKind) (a₀ : Array Keyed) (p : Array (Nat × Nat × Nat)) (lo : Nat) (x0 : Nat → κ.α) (x : Nat) : Option (Option Nat) × Nat × Nat → SortSt → Prop
 | mk (q : Nat) (st : SortSt) (b : B κ a₀ p lo x0 st) (h : Nd κ (sl κ lo st) x) (hq : q + 1 ≤ x) (e : ∀ i, x - (q + 1) ≤ i → i < x → sl κ lo st i = sl κ lo st (x - 1)) : DI κ a₀ p lo x0 x (none, x, q) st
inductive DQ (κ : PyProof.Rows.KeyKind) (a₀ : Array Keyed) (p : Array (Nat × Nat × Nat)) (lo : Nat) (x0 : Nat → κ.α) (n0 nrem : Nat) : Option (Option Nat) × Nat × Nat → SortSt → Prop
 | mk (x q : Nat) (st : SortSt) (h1 : n0 ≤ x) (h2 : x ≤ nrem) (b : B κ a₀ p lo x0 st) (h : Nd κ (sl κ lo st) x) (hq : q + 1 ≤ x) (e : ∀ i, x - (q + 1) ≤ i → i < x → sl κ lo st i = sl κ lo st (x - 1)) : DQ κ a₀ p lo x0 n0 nrem (none, x, q) st
theorem wpS_countRun {nrem : Nat} {Q : Option Nat → SortSt → Prop} (hO : κ.OneLt) (h0 : KeysOf κ a₀) (hn : lo + nrem ≤ a₀.size) (h1 : 1 ≤ nrem) (hB : B κ a₀ p lo x0 st)
  (h : ∀ m st', B κ a₀ p lo x0 st' → 1 ≤ m → m ≤ nrem → Sd κ (sl κ lo st') m → Q (some m) st') : wpS (model prog w) A E s (countRun' lo nrem) Q st := by
 refine wpS_bind (wpS_mono (wpS_asc (lo := lo) (κ := κ) (Nat.le_refl 1) h1 Sd.one fun x n Q' k1 k2 ht hf => wpS_ask2 (n := nrem) hO h0 hB rfl (Nat.add_sub_assoc k1 lo) hn k2 (Nat.lt_of_le_of_lt (Nat.sub_le _ _) k2) (fun b => rfl) (fun e => wpS_pure (ht e)) fun e => wpS_pure (hf e)) ?_)
 rintro _ _ ⟨n, hs, k1, k2, e⟩
 dsimp -zeta only
 refine wpS_ite (fun c => wpS_pure (h n _ hB k1 k2 hs)) fun c => ?_
 have e := e.resolve_left (mt beq_iff_eq.mpr c)
 have k2 : n < nrem := Nat.lt_of_le_of_ne k2 (mt beq_iff_eq.mpr c)
 extract_lets _ _ jp
 have hj : ∀ st1, B κ a₀ p lo x0 st1 → Nd κ (sl κ lo st1) (n + 1) → wpS (model prog w) A E s (jp ()) Q st1 := fun st1 hB hd => by
  refine wpS_bind (wpS_lift (wpAny_rule ⟨rfl, ?_⟩))
  refine wpS_bind (wpS_mono (wpS_forRange (I := fun x c st' => DI κ a₀ p lo x0 x c st') (Q := fun c st' => DQ κ a₀ p lo x0 (n + 1) nrem c st') ?_ ?_ (.mk 0 _ hB hd (Nat.succ_le_succ (Nat.zero_le n)) fun i q1 q2 => congrArg _ (Nat.le_antisymm (Nat.le_of_lt_succ q2) q1))) ?_)
  ·rintro x _ st2 k3 k4 ⟨q, _, b, hd, hq, e⟩
   have k5 : 1 ≤ x := Nat.le_trans (Nat.le_add_left 1 n) k3
   have k6 : lo + x ≤ a₀.size := Nat.le_trans (Nat.add_le_add_left (Nat.le_of_lt k4) lo) hn
   have k7 : lo + (x - 1) < a₀.size := Nat.lt_of_lt_of_le (Nat.add_lt_add_left (Nat.sub_lt k5 Nat.one_pos) lo) k6
   have zero : ∀ (f : Nat → κ.α) i, x + 1 - (0 + 1) ≤ i → i < x + 1 → f i = f (x + 1 - 1) := fun f i q1 q2 => congrArg f (Nat.le_antisymm (Nat.le_of_lt_succ q2) q1)
   have k8 : lo + x < a₀.size := Nat.lt_of_lt_of_le (Nat.add_lt_add_left k4 lo) hn
   have k9 : lo ≤ lo + x - (q + 1) := Nat.le_sub_of_add_le (Nat.add_le_add_left hq lo)
   refine wpS_bind (wpS_ltG (x := x) hO h0 b rfl (Nat.add_sub_assoc k5 lo) k8 k7 ?_)
   refine wpS_ite (fun c => wpS_ite (fun d => wpS_bind (wpS_reverse (wpS_pure ?_))) fun d => wpS_pure ?_) fun c => wpS_bind (wpS_ltG (y := x) hO h0 b (Nat.add_sub_assoc k5 lo) rfl k7 k8 (wpS_ite (fun d => wpS_pure ?_) fun d => wpS_pure ?_))
   ·have r := b.rev_eq k6 e hq k5
    refine DI.mk 0 _ (b.rev k9 k6) (Nd.succ (fun i j q1 q2 => ?_) k5 ?_) (Nat.succ_le_succ (Nat.zero_le x)) (zero _)
    ·rw [r, r]; exact hd i j q1 q2
    ·rw [r, r]; exact KeyOrd.kle_of_klt c
   ·exact DI.mk 0 _ b (hd.succ k5 (KeyOrd.kle_of_klt c)) (Nat.succ_le_succ (Nat.zero_le x)) (zero _)
   ·exact DQ.mk _ _ _ k3 (Nat.le_of_lt k4) b hd hq e
   ·have c' : κ.kle (sl κ lo st2 (x - 1)) (sl κ lo st2 x) := by unfold KeyOrd.kle; simpa using c
    have d' : κ.kle (sl κ lo st2 x) (sl κ lo st2 (x - 1)) := by unfold KeyOrd.kle; simpa using d
    have eq := KeyOrd.kle_antisymm d' c'
    refine DI.mk (q + 1) _ b (hd.succ k5 d') (Nat.succ_le_succ hq) fun i q1 q2 => ?_
    rw [Nat.add_sub_cancel]
    by_cases z : i = x
    ·rw [z]
    ·rw [eq]; exact e i (by rwa [Nat.add_sub_add_right] at q1) (Nat.lt_of_le_of_ne (Nat.le_of_lt_succ q2) z)
  ·rintro _ _ ⟨q, st2, b, hd, hq, e⟩
   rw [Nat.max_eq_right k2] at hd hq e ⊢
   exact .mk _ _ _ k2 (Nat.le_refl _) b hd hq e
  ·rintro _ _ ⟨m, q, st2, k3, k4, b, hd, hq, e⟩
   dsimp -zeta only
   extract_lets _ _ _ _ jp2
   have k7 : lo ≤ lo + m - (q + 1) := Nat.le_sub_of_add_le (Nat.add_le_add_left hq lo)
   have k5 : 1 ≤ m := Nat.le_trans (Nat.le_add_left 1 n) k3
   have k6 : lo + m ≤ a₀.size := Nat.le_trans (Nat.add_le_add_left k4 lo) hn
   have hj2 : ∀ st3, B κ a₀ p lo x0 st3 → Nd κ (sl κ lo st3) m → wpS (model prog w) A E s (jp2 ()) Q st3 := fun st3 b hd => by
    have b' := b.rev (Nat.le_refl lo) k6
    refine wpS_bind (wpS_reverse (wpS_bind (wpS_mono (wpS_asc (lo := lo) (κ := κ) k5 k4 (b.rev_all k6 hd) fun x n Q' k1 k2 ht hf => wpS_ask2 (n := nrem) hO h0 b' rfl (Nat.add_sub_assoc k1 lo) hn k2 (Nat.lt_of_le_of_lt (Nat.sub_le _ _) k2) (fun b => rfl) (fun e => wpS_pure (ht e)) fun e => wpS_pure (hf e)) ?_)))
    rintro _ _ ⟨n, hs, k1, k2, e⟩
    exact wpS_pure (h n _ b' (Nat.le_trans k5 k1) k2 hs)
   refine wpS_ite (fun d => wpS_bind (wpS_reverse (hj2 _ (b.rev k7 k6) fun i j q1 q2 => ?_))) fun d => hj2 _ b hd
   have r := b.rev_eq k6 e hq k5
   rw [r, r]
   exact hd i j q1 q2
 refine wpS_ite (fun c => ?_) fun c => ?_
 ·refine wpS_bind (wpS_ltG (x := 0) (y := n - 1) hO h0 hB rfl (Nat.add_sub_assoc k1 lo) (Nat.lt_of_lt_of_le (Nat.add_lt_add_left h1 lo) hn) (Nat.lt_of_lt_of_le (Nat.add_lt_add_left (Nat.lt_of_le_of_lt (Nat.sub_le _ _) k2) lo) hn) ?_)
  have kn : lo + n ≤ a₀.size := Nat.le_trans (Nat.add_le_add_left (Nat.le_of_lt k2) lo) hn
  refine wpS_ite (fun d => wpS_pure (h n _ hB k1 (Nat.le_of_lt k2) hs)) fun d => wpS_bind (wpS_reverse (hj _ (hB.rev (Nat.le_refl _) kn) ?_))
  have d' : κ.kle (sl κ lo st (n - 1)) (sl κ lo st 0) := by unfold KeyOrd.kle; simpa using d
  have all : ∀ i, n - n ≤ i → i < n → sl κ lo st i = sl κ lo st (n - 1) := fun i _ hi => KeyOrd.kle_antisymm (hs i (n - 1) (Nat.le_sub_one_of_lt hi) (Nat.sub_lt k1 Nat.one_pos)) (KeyOrd.kle_trans d' (hs 0 i (Nat.zero_le _) hi))
  have r := hB.rev_eq (n := n) (m := n) kn all (Nat.le_refl _) k1
  rw [Nat.add_sub_cancel] at r
  refine Nd.succ (fun i j q1 q2 => ?_) k1 ?_
  ·rw [r, r, all i (ar0 (Nat.le_refl n)) (Nat.lt_of_le_of_lt q1 q2), all j (ar0 (Nat.le_refl n)) q2]; exact KeyOrd.kle_refl _
  ·rw [r, r]; exact KeyOrd.kle_of_klt e
 ·have : n = 1 := Nat.le_antisymm (Nat.not_lt.mp c) k1
  subst this
  exact hj _ hB (Nd.succ Nd.one (Nat.le_refl _) (KeyOrd.kle_of_klt e))
end
end SR
end
section
namespace SR
section
variable {prog : Program} {w : World} {A : Around} {E : Value → Shared → Prop} {s : Shared} {κ : PyProof.Rows.KeyKind} {a₀ : Array Keyed} {p : Array (Nat × Nat × Nat)} {lo : Nat} {x0 : Nat → κ.α} {st : SortSt}
inductive BI (κ : PyProof.Rows.KeyKind) (a₀ : Array Keyed) (p : Array (Nat × Nat × Nat)) (lo : Nat) (x0 : Nat → κ.α) (k : Nat) : Option Bool × Unit → SortSt → Prop
 | mk (st : SortSt) (b : B κ a₀ p lo x0 st) (h : Sd κ (sl κ lo st) k) : BI κ a₀ p lo x0 k (none, ()) st
structure Bs (κ : PyProof.Rows.KeyKind) (f : Nat → κ.α) (k l r : Nat) : Prop where
 le : l ≤ r
 rk : r ≤ k
 lo : ∀ i, i < l → κ.kle (f i) (f k)
 hi : ∀ i, r ≤ i → i < k → κ.klt (f k) (f i)
inductive BL (κ : PyProof.Rows.KeyKind) (lo k : Nat) (st : SortSt) (x : Nat) : Option Bool × Nat × Nat → SortSt → Prop
 | mk (l r : Nat) (h : Bs κ (sl κ lo st) k l r) (e : r - l ≤ k - x) : BL κ lo k st x (none, l, r) st
theorem B.moved {k l : Nat} (hB : B κ a₀ p lo x0 st) (hk : lo + k < a₀.size) (hs : Sd κ (sl κ lo st) k) (b : Bs κ (sl κ lo st) k l l) :
  B κ a₀ p lo x0 (setArr st (bubble (arrOf st) (lo + k) (lo + k - (lo + l)))) ∧ Sd κ (sl κ lo (setArr st (bubble (arrOf st) (lo + k) (lo + k - (lo + l))))) (k + 1) := by
 have hks : lo + k < (arrOf st).size := by rw [hB.size]; exact hk
 have lk := b.rk
 have e : ∀ i, KK κ (bubble (arrOf st) (lo + k) (lo + k - (lo + l))) i = _ := KK_bubble hks (Nat.sub_le _ _)
 have d : lo + k - (lo + k - (lo + l)) = lo + l := Nat.sub_sub_self (Nat.add_le_add_left lk lo)
 rw [d] at e
 refine ⟨hB.set (bubble_perm _ _ _) fun i hi => ?_, fun i j h1 h2 => ?_⟩
 ·rw [e, if_neg (fun q => absurd (show lo + l < lo from (show i = lo + l from q) ▸ hi) (Nat.not_lt.mpr (Nat.le_add_right _ _))), if_neg fun q => absurd (Nat.lt_trans q.1 hi) (Nat.not_lt.mpr (Nat.le_add_right _ _))]
 ·have f : ∀ i, sl κ lo (setArr st (bubble (arrOf st) (lo + k) (lo + k - (lo + l)))) i = if i = l then sl κ lo st k else if l < i ∧ i ≤ k then sl κ lo st (i - 1) else sl κ lo st i := fun i => by
   unfold sl
   refine (e _).trans ?_
   by_cases c : i = l
   ·rw [if_pos (congrArg (lo + ·) c), if_pos c]
   ·rw [if_neg fun q => c (Nat.add_left_cancel q), if_neg c]
    by_cases c' : l < i ∧ i ≤ k
    ·rw [if_pos ⟨Nat.add_lt_add_left c'.1 lo, Nat.add_le_add_left c'.2 lo⟩, if_pos c']
     exact congrArg _ (Nat.add_sub_assoc (Nat.lt_of_le_of_lt (Nat.zero_le _) c'.1) lo)
    ·rw [if_neg fun q => c' ⟨Nat.lt_of_add_lt_add_left q.1, Nat.le_of_add_le_add_left q.2⟩, if_neg c']
  have jk := Nat.le_of_lt_succ h2
  have sk : ∀ m, m < j → j - 1 < k := fun m q => Nat.sub_one_lt_of_le (Nat.lt_of_le_of_lt (Nat.zero_le _) q) jk
  rw [f, f]
  by_cases c1 : i = l
  ·rw [if_pos c1]
   by_cases c2 : j = l
   ·rw [if_pos c2]; exact KeyOrd.kle_refl _
   ·have lj : l < j := Nat.lt_of_le_of_ne (c1 ▸ h1) (Ne.symm c2)
    rw [if_neg c2, if_pos ⟨lj, jk⟩]
    exact KeyOrd.kle_of_klt (b.hi _ (Nat.le_sub_one_of_lt lj) (sk l lj))
  ·rw [if_neg c1]
   by_cases c2 : j = l
   ·rw [if_pos c2, if_neg fun q => absurd (show i ≤ l from c2 ▸ h1) (Nat.not_le.mpr q.1)]
    exact b.lo _ (Nat.lt_of_le_of_ne (c2 ▸ h1) c1)
   ·rw [if_neg c2]
    by_cases c3 : l < i ∧ i ≤ k
    ·have lj := Nat.lt_of_lt_of_le c3.1 h1
     rw [if_pos c3, if_pos ⟨lj, jk⟩]
     exact hs _ _ (Nat.sub_le_sub_right h1 1) (sk l lj)
    ·rw [if_neg c3]
     by_cases c4 : l < j ∧ j ≤ k
     ·rw [if_pos c4]
      exact hs _ _ (Nat.le_sub_one_of_lt (Nat.lt_of_le_of_lt (Nat.not_lt.mp fun q => c3 ⟨q, Nat.le_trans h1 jk⟩) c4.1)) (sk l c4.1)
     ·rw [if_neg c4]
      exact hs _ _ h1 (Nat.lt_of_lt_of_le (Nat.lt_of_le_of_ne (Nat.not_lt.mp fun q => c4 ⟨q, jk⟩) c2) lk)
theorem wpS_binarySort {n ok : Nat} {Q : Bool → SortSt → Prop} (hO : κ.OneLt) (h0 : KeysOf κ a₀) (hn : lo + n ≤ a₀.size) (ok1 : 1 ≤ ok) (hok : ok ≤ n) (hB : B κ a₀ p lo x0 st) (hs : Sd κ (sl κ lo st) ok)
  (h : ∀ st', B κ a₀ p lo x0 st' → Sd κ (sl κ lo st') n → Q true st') : wpS (model prog w) A E s (binarySort' lo n ok) Q st := by
 refine wpS_bind (wpS_mono (wpS_forRange (I := fun x c st' => BI κ a₀ p lo x0 x c st') (Q := fun c st' => BI κ a₀ p lo x0 n c st') ?_ ?_ (.mk _ hB (by rwa [Nat.max_eq_left ok1]))) ?_)
 ·rintro k _ st1 k1 k2 ⟨_, b, hs⟩
  have k3 : lo + k < a₀.size := Nat.lt_of_lt_of_le (Nat.add_lt_add_left k2 lo) hn
  refine wpS_bind (wpS_mono (wpS_forRange (I := fun x c st' => BL κ lo k st1 x c st') (Q := fun c st' => BL κ lo k st1 k c st') ?_ (fun c st' q => by rwa [Nat.max_eq_right (Nat.zero_le k)] at q) (.mk 0 k ⟨Nat.zero_le _, Nat.le_refl _, fun i q => absurd q (Nat.not_lt_zero _), fun i q1 q2 => absurd q1 (Nat.not_le_of_lt q2)⟩ (Nat.le_refl _))) ?_)
  ·rintro x _ _ _ hx ⟨l, r, q, e⟩
   have q1 := q.le
   have q2 := q.rk
   refine wpS_ite (fun c => wpS_pure (BL.mk l r q ?_)) fun c => ?_
   ·exact ar0 c
   ·have c : ¬ l ≥ r := c
    have c0 := ar2 c
    have c1 : (l + r) / 2 < k := Nat.lt_of_lt_of_le c0 q2
    refine wpS_bind (wpS_ltG hO h0 b rfl rfl k3 (Nat.lt_trans (Nat.add_lt_add_left c1 lo) k3) ?_)
    refine wpS_ite (fun d => wpS_pure (BL.mk l ((l + r) / 2) ⟨ar3 c, Nat.le_of_lt c1, q.lo, fun i i1 i2 => KeyOrd.klt_of_klt_of_kle d (hs _ _ i1 i2)⟩ (arl (ar3 c) c0 e))) fun d => ?_
    have d' : κ.kle (sl κ lo st1 ((l + r) / 2)) (sl κ lo st1 k) := by unfold KeyOrd.kle; simpa using d
    exact wpS_pure (BL.mk ((l + r) / 2 + 1) r ⟨c0, q2, fun i i1 => KeyOrd.kle_trans (hs _ _ (Nat.le_of_lt_succ i1) c1) d', q.hi⟩ (arx (ar3 c) c0 e))
  ·rintro _ _ ⟨l, r, q, e⟩
   have : l = r := Nat.le_antisymm q.le (Nat.le_of_sub_eq_zero (Nat.le_zero.mp (Nat.sub_self k ▸ e)))
   subst this
   have m := b.moved k3 hs q
   exact wpS_bind (wpS_modify (wpS_pure (BI.mk _ m.1 m.2)))
 ·rintro _ _ ⟨st1, b, hs⟩
  rw [Nat.max_eq_left ok1, Nat.max_eq_right hok] at hs
  exact .mk _ b hs
 ·rintro _ _ ⟨st1, b, hs⟩
  exact wpS_pure (h _ b hs)
end
end SR
end
section
namespace SR
section
variable {prog : Program} {w : World} {A : Around} {E : Value → Shared → Prop} {s : Shared} {κ : PyProof.Rows.KeyKind}
theorem Srt.two {L R : List Keyed} (hL : L.Pairwise (le κ)) (hR : R.Pairwise (le κ)) (h : ∀ x ∈ L, ∀ y ∈ R, le κ x y) : Srt (le κ) (L ++ R) (L ++ R) := ⟨.refl _, List.pairwise_append.mpr ⟨hL, hR, h⟩⟩
theorem Srt.join {L R M : List Keyed} {k nb : Nat} {k1 k2 : Keyed} (hL : L.Pairwise (le κ)) (hR : R.Pairwise (le κ)) (h1 : ∀ y ∈ R, le κ k1 y) (h2 : ∀ x ∈ L, le κ x k2) (y1 : ∀ p ∈ L.take k, le κ p k1) (n2 : ∀ p ∈ R.drop nb, le κ k2 p)
  (hM : Srt (le κ) (L.drop k ++ R.take nb) M) : Srt (le κ) (L ++ R) (L.take k ++ M ++ R.drop nb) := by
 have eL := List.take_append_drop k L
 have eR := List.take_append_drop nb R
 rw [← eL] at hL
 rw [← eR] at hR
 have pL := List.pairwise_append.mp hL
 have pR := List.pairwise_append.mp hR
 refine ⟨?_, List.pairwise_append.mpr ⟨List.pairwise_append.mpr ⟨pL.1, hM.srt, fun x hx y hy => ?_⟩, pR.2.1, fun x hx z hz => ?_⟩⟩
 ·refine ((hM.perm.append_left (L.take k)).append_right (R.drop nb)).trans (List.Perm.of_eq ?_)
  rw [← List.append_assoc, eL, List.append_assoc, eR]
 ·rcases List.mem_append.mp (hM.perm.mem_iff.mp hy) with q | q
  ·exact pL.2.2 x hx y q
  ·exact le_trans (y1 x hx) (h1 y (List.mem_of_mem_take q))
 ·rcases List.mem_append.mp hx with hx | hx
  ·exact le_trans (y1 x hx) (h1 z (List.mem_of_mem_drop hz))
  ·rcases List.mem_append.mp (hM.perm.mem_iff.mp hx) with q | q
   ·exact le_trans (h2 x (List.mem_of_mem_drop q)) (n2 z hz)
   ·exact pR.2.2 x q z hz
theorem put_all (k : Nat) : ∀ (l : List Keyed) (m : Nat) (X : Array Keyed), k + m + l.length ≤ X.size →
  ((l.zipIdx m).foldl (fun a (q : Keyed × Nat) => a.setIfInBounds (k + q.2) q.1) X).toList = X.toList.take (k + m) ++ l ++ X.toList.drop (k + m + l.length)
 | [], m, X, _ => by
  rw [List.append_nil]
  exact (List.take_append_drop _ _).symm
 | x :: l, m, X, h => by
  have h : k + m + (l.length + 1) ≤ X.size := h
  have e : k + m + 1 + l.length = k + m + (l.length + 1) := by rw [Nat.add_assoc (k + m), Nat.add_comm 1]
  rw [List.zipIdx_cons, List.foldl_cons, put_all k l (m + 1) _ (by rw [Array.size_setIfInBounds]; exact Nat.le_trans (Nat.le_of_eq e) h), Array.toList_setIfInBounds]
  have h1 : k + m < X.toList.length := by rw [Array.length_toList]; exact Nat.lt_of_lt_of_le (Nat.lt_add_of_pos_right (Nat.succ_pos _)) h
  rw [show k + (m + 1) = k + m + 1 from rfl, List.take_succ_eq_append_getElem (by rw [List.length_set]; exact h1), List.getElem_set_self, List.take_set_of_le (Nat.le_refl _), List.drop_set_of_lt (Nat.lt_of_lt_of_le (Nat.lt_succ_self _) (Nat.le_add_right _ _)), List.append_assoc, List.append_assoc, List.append_assoc, List.length_cons, e]
  rfl
theorem wpS_set {M : Model} {st st' st'' : SortSt} {Q : PUnit → SortSt → Prop} (e : st' = st'') (h : Q ⟨⟩ st'') : wpS M A E s (set st' : StateT SortSt Sem PUnit) Q st := by
 subst e
 unfold wpS; rw [StateT.run_set]; exact wpAny_pure ⟨rfl, h⟩
theorem pend_two (x y z : Nat × Nat × Nat) : (#[x, y].setIfInBounds 0 z).eraseIdxIfInBounds 1 = #[z] := by
 simp [Array.setIfInBounds, Array.eraseIdxIfInBounds]
theorem wpS_mergeAt {n1 n2 pw g : Nat} {X : Array Keyed} {Q : Bool → SortSt → Prop} (hO : κ.OneLt) (hk : Has κ X.toList) (hn : n1 + n2 = X.size) (p1 : 0 < n1) (p2 : 0 < n2)
  (sL : (X.toList.take n1).Pairwise (le κ)) (sR : (X.toList.drop n1).Pairwise (le κ))
  (h : ∀ Y g', Srt (le κ) X.toList Y.toList → Q true (SortSt.mk' oneType' Y #[(0, n1 + n2, pw)] g' none)) : wpS (model prog w) A E s (mergeAt' 0) Q (SortSt.mk' oneType' X #[(0, n1, pw), (n1, n2, 0)] g none) := by
 refine wpS_bind (wpS_get ?_)
 have i1 : n1 < X.size := hn ▸ Nat.lt_add_of_pos_right p2
 have e : X.toList.take n1 ++ X.toList.drop n1 = X.toList := List.take_append_drop _ _
 have key1 : ∀ y ∈ X.toList.drop n1, le κ (X[n1]'i1) y := fun y hy => by
  rw [drop_one X i1] at hy sR
  exact pw_head sR hy
 refine wpS_bind (wpS_set (st'' := SortSt.mk' oneType' X #[(0, n1 + n2, pw)] g none) (congrArg (fun p => SortSt.mk' oneType' X p g none) (pend_two _ _ _)) ?_)
 refine wpS_bind (wpS_elem (Array.getElem?_eq_getElem i1) ?_)
 refine wpS_bind (wpS_gal (X.toList.take n1) hO rfl rfl (List.length_take_of_le (by rw [Array.length_toList]; exact Nat.le_of_lt i1)) (hk.at i1) (fun p hp => hk p (List.mem_of_mem_take hp)) sL p1 fun k hk' yes no => ?_)
 refine wpS_ite (fun c => wpS_pure ?_) fun c => ?_
 ·refine h _ _ ?_
  have c : k = n1 := by
   exact Nat.le_antisymm hk' (Nat.le_of_sub_eq_zero (eq_of_beq c))
  subst c
  have f := Srt.two sL sR fun x hx y hy => le_trans (ask_rt (yes x (by rwa [List.take_take, Nat.min_self]))) (key1 y hy)
  rwa [e] at f
 ·have ck : k < n1 := Nat.lt_of_le_of_ne hk' fun q => c (by rw [q, Nat.sub_self]; rfl)
  have i2 : n1 - 1 < X.size := Nat.lt_of_le_of_lt (Nat.sub_le _ _) i1
  have sz : X.size - n1 = n2 := by rw [← hn, Nat.add_sub_cancel_left]
  have key2 : ∀ x ∈ X.toList.take n1, le κ x (X[n1 - 1]'i2) := fun x hx => by
   have hx := List.mem_reverse.mpr hx
   have sr := List.pairwise_reverse.mpr sL
   rw [take_one X p1 i2] at hx sr
   rcases List.mem_cons.mp hx with rfl | hx
   ·exact le_refl _
   ·exact (List.pairwise_cons.mp sr).1 _ hx
  have hR : ((X.toList.drop n1).take n2) = X.toList.drop n1 := List.take_of_length_le (by rw [List.length_drop, Array.length_toList]; exact Nat.le_of_eq sz)
  refine wpS_bind (wpS_elem (p := X[n1 - 1]'i2) (by rw [Nat.zero_add, ar4 hk']; exact Array.getElem?_eq_getElem i2) ?_)
  refine wpS_bind (wpS_gal (X.toList.drop n1) hO rfl hR (by rw [List.length_drop, Array.length_toList]; exact sz) (hk.at i2) (fun p hp => hk p (List.mem_of_mem_drop hp)) sR (Nat.sub_lt p2 Nat.one_pos) fun nb hnb yes2 no2 => ?_)
  refine wpS_ite (fun c => wpS_pure ?_) fun c => ?_
  ·refine h _ _ ?_
   have c : nb = 0 := eq_of_beq c
   subst c
   have f := Srt.two sL sR fun x hx y hy => le_trans (key2 x hx) (ask_lf (no2 y hy))
   rwa [e] at f
  ·have cb : 0 < nb := Nat.pos_of_ne_zero (mt beq_iff_eq.mpr c)
   have ex : (X.extract (0 + k) n1).toList = (X.toList.take n1).drop k := by
    rw [Nat.zero_add, Array.toList_extract, List.extract_eq_take_drop, List.drop_take]
   have ey : (X.extract n1 (n1 + nb)).toList = (X.toList.drop n1).take nb := by
    rw [Array.toList_extract, List.extract_eq_take_drop, Nat.add_sub_cancel_left]
   have sx : (X.extract (0 + k) n1).size = n1 - k := by rw [Array.size_extract, Nat.min_eq_left (Nat.le_of_lt i1), Nat.zero_add]
   have sy : (X.extract n1 (n1 + nb)).size = nb := by rw [Array.size_extract, Nat.min_eq_left (hn ▸ Nat.add_le_add_left hnb n1), Nat.add_sub_cancel_left]
   have T : Two κ (X.extract (0 + k) n1) (X.extract n1 (n1 + nb)) := by
    refine ⟨fun p hp => ?_, fun p hp => ?_, ?_, ?_, Nat.lt_of_lt_of_eq (Nat.sub_pos_of_lt ck) sx.symm, Nat.lt_of_lt_of_eq cb sy.symm, fun x hx => ?_, fun y hy => ?_⟩
    ·rw [ex] at hp; exact hk p (List.mem_of_mem_take (List.mem_of_mem_drop hp))
    ·rw [ey] at hp; exact hk p (List.mem_of_mem_drop (List.mem_of_mem_take hp))
    ·rw [ex]; exact sL.sublist (List.drop_sublist _ _)
    ·rw [ey]; exact sR.sublist (List.take_sublist _ _)
    ·rw [ex] at hx
     rw [Array.getElem_extract]
     exact ask_rf (no x hx)
    ·rw [ey] at hy
     rw [Array.getElem_extract]
     have q : 0 + k + ((X.extract (0 + k) n1).size - 1) = n1 - 1 := by rw [sx, Nat.zero_add, ← Nat.add_sub_assoc (Nat.sub_pos_of_lt ck), ar4 hk']
     have := ask_lt (yes2 y hy)
     simpa only [q] using this
   extract_lets x y jp
   have hj : ∀ M st', FS κ x y (SortSt.mk' oneType' X #[(0, n1 + n2, pw)] g none) M st' → wpS (model prog w) A E s (jp M) Q st' := fun M st' f => by
    obtain ⟨kd, ar, pn, mg, fl⟩ := st'
    obtain ⟨f, sk, sa, sp, sf⟩ := f
    obtain rfl : kd = oneType' := sk
    obtain rfl : ar = X := sa
    obtain rfl : pn = #[(0, n1 + n2, pw)] := sp
    obtain rfl : fl = none := sf
    refine wpS_bind (wpS_modify (wpS_bind (wpS_get (wpS_pure ?_))))
    refine h _ _ ?_
    have hl : M.toList.length = n1 - k + nb := by
     rw [f.perm.length_eq, List.length_append, Array.length_toList, Array.length_toList]
     exact congr (congrArg HAdd.hAdd sx) sy
    have f' : Srt (le κ) ((ar.toList.take n1).drop k ++ (ar.toList.drop n1).take nb) M.toList := by rw [← ex, ← ey]; exact f
    have J := Srt.join sL sR key1 key2 (fun p hp => ask_rt (yes p hp)) (fun p hp => ask_lf (no2 p hp)) f'
    rw [e, List.take_take, Nat.min_eq_left hk', List.drop_drop] at J
    refine cast (congrArg (Srt (le κ) ar.toList) (Eq.trans ?_ (put_all (0 + k) M.toList 0 ar (by rw [hl, Nat.zero_add, Nat.add_zero, ← Nat.add_assoc, ar4 hk', ← hn]; exact Nat.add_le_add_left hnb n1)).symm)) J
    rw [hl, Nat.add_zero, Nat.zero_add, ← Nat.add_assoc, ar4 hk']
   exact wpS_ite (fun _ => wpS_bind (wpS_mergeLo hO rfl T hj)) fun _ => wpS_bind (wpS_mergeHi hO rfl T hj)
end
end SR
end
section
namespace SR
section
variable {prog : Program} {w : World} {A : Around} {E : Value → Shared → Prop} {s : Shared} {κ : PyProof.Rows.KeyKind} {a₀ : Array Keyed} {st : SortSt}
noncomputable def z0 (κ : PyProof.Rows.KeyKind) : Nat → κ.α := fun _ => κ.dflt
inductive SI (κ : PyProof.Rows.KeyKind) (a₀ : Array Keyed) (x : Nat) : Option Unit × Nat → SortSt → Prop
 | a (st : SortSt) (b : B κ a₀ #[] 0 (z0 κ) st) (hx : x = 0) : SI κ a₀ x (none, 0) st
 | b (n : Nat) (st : SortSt) (b : B κ a₀ #[(0, n, 0)] 0 (z0 κ) st) (h : Sd κ (sl κ 0 st) n) (h1 : a₀.size ≤ 2 * n) (h2 : n ≤ a₀.size) (hx : x = 1 ∨ n = a₀.size) : SI κ a₀ x (none, n) st
 | c (n m pw : Nat) (st : SortSt) (b : B κ a₀ #[(0, n, pw), (n, m, 0)] 0 (z0 κ) st) (h : Sd κ (sl κ 0 st) n) (h' : Sd κ (sl κ n st) m) (h1 : 0 < n) (h2 : 0 < m) (h3 : n + m = a₀.size) : SI κ a₀ x (none, a₀.size) st
inductive SQ (κ : PyProof.Rows.KeyKind) (a₀ : Array Keyed) : Option Unit × Nat → SortSt → Prop
 | b (st : SortSt) (b : B κ a₀ #[(0, a₀.size, 0)] 0 (z0 κ) st) (h : Sd κ (sl κ 0 st) a₀.size) : SQ κ a₀ (none, a₀.size) st
 | c (n m pw : Nat) (st : SortSt) (b : B κ a₀ #[(0, n, pw), (n, m, 0)] 0 (z0 κ) st) (h : Sd κ (sl κ 0 st) n) (h' : Sd κ (sl κ n st) m) (h1 : 0 < n) (h2 : 0 < m) (h3 : n + m = a₀.size) : SQ κ a₀ (none, a₀.size) st
inductive SP (κ : PyProof.Rows.KeyKind) (a₀ : Array Keyed) (x : Nat) : ForInStep (Option Unit × Nat) → SortSt → Prop
 | fin (c : Option Unit × Nat) (st : SortSt) (h : SQ κ a₀ c st) : SP κ a₀ x (.done c) st
 | go (c : Option Unit × Nat) (st : SortSt) (h : SI κ a₀ (x + 1) c st) : SP κ a₀ x (.yield c) st
theorem sd_pw {X : Array Keyed} {n lo : Nat} (h : Sd κ (fun i => KK κ X (lo + i)) n) (hn : lo + n ≤ X.size) : ((X.toList.drop lo).take n).Pairwise (le κ) := by
 rw [List.pairwise_iff_getElem]
 intro i j hi hj hij
 have e : ∀ k (hk : k < ((X.toList.drop lo).take n).length), kp κ ((X.toList.drop lo).take n)[k] = KK κ X (lo + k) := fun k hk => by
  rw [List.length_take, List.length_drop, Array.length_toList] at hk
  rw [List.getElem_take, List.getElem_drop, kk_kp (X := X) (i := lo + k) (Nat.lt_of_lt_of_le (Nat.add_lt_add_left (Nat.lt_of_lt_of_le hk (Nat.min_le_left _ _)) lo) hn)]
  rfl
 unfold le
 rw [e i hi, e j hj]
 refine h i j (Nat.le_of_lt hij) ?_
 rw [List.length_take] at hj
 exact Nat.lt_of_lt_of_le hj (Nat.min_le_left _ _)
theorem pw_sd {X : Array Keyed} (h : X.toList.Pairwise (le κ)) : SortedToK κ X X.size := fun i j h1 h2 => by
 rw [kk_kp (Nat.lt_of_le_of_lt h1 h2), kk_kp h2]
 by_cases c : i = j
 ·subst c; exact KeyOrd.kle_refl _
 ·exact List.pairwise_iff_getElem.mp h i j (Nat.lt_of_le_of_lt h1 h2) h2 (Nat.lt_of_le_of_ne h1 c)
theorem min_run {n : Nat} (h1 : 64 ≤ n) (h2 : n < 128) : minRun' n n 0 ≤ n ∧ n ≤ 2 * minRun' n n 0 := by
 obtain ⟨k, hk⟩ : ∃ k, n = k + 2 := ⟨n - 2, (Nat.sub_add_cancel (Nat.le_trans (by decide) h1)).symm⟩
 have e : minRun' n n 0 = n / 2 + max 0 (n % 2) := by
  conv => lhs; arg 1; rw [hk]
  rw [minRun'_succ, if_neg (Nat.not_lt.mpr h1), minRun'_succ, if_pos (Nat.div_lt_of_lt_mul (show n < 2 * 64 from h2))]
 rw [e, Nat.max_eq_right (Nat.zero_le _)]
 have q := Nat.div_add_mod n 2
 exact ⟨Nat.le_trans (Nat.add_le_add_right (Nat.le_mul_of_pos_left _ (by decide)) _) (Nat.le_of_eq q), Nat.le_trans (Nat.le_of_eq q.symm) (by rw [Nat.mul_add]; exact Nat.add_le_add_left (Nat.le_mul_of_pos_left _ (by decide)) _)⟩
theorem wpS_sortRuns {Q : Unit → SortSt → Prop} (hO : κ.OneLt) (h0 : KeysOf κ a₀) (hB : B κ a₀ #[] 0 (z0 κ) st) (h1 : 64 ≤ a₀.size) (h2 : a₀.size < 128)
  (h : ∀ st', (arrOf st').Perm a₀ → failedOf st' = none → SortedToK κ (arrOf st') a₀.size → Q () st') : wpS (model prog w) A E s sortRuns' Q st := by
 have hm := min_run h1 h2
 rw [← hB.size] at hm
 refine wpS_bind (wpS_get ?_)
 refine wpS_bind (wpS_mono (wpS_forRange (I := fun x c st' => SI κ a₀ x c st') (Q := fun c st' => SQ κ a₀ c st') ?_ ?_ (.a _ hB rfl)) ?_)
 ·rintro x _ st1 _ hx q
  refine wpS_mono (Q := SP κ a₀ x) ?_ fun r st' q => by
   cases q with
   | fin c st h => exact h
   | go c st h => exact h
  cases q with
  | a _ b hx =>
   refine wpS_ite (fun c => by rw [hB.size] at c; exact absurd c (Nat.not_le.mpr (Nat.lt_of_lt_of_le (by decide) h1))) fun c => ?_
   refine wpS_bind (wpS_countRun hO h0 (by rw [hB.size]; exact Nat.le_of_eq (Nat.zero_add _)) (by rw [hB.size]; exact Nat.le_trans (by decide) h1) b fun m st2 b2 m1 m2 hs2 => ?_)
   dsimp -zeta only
   extract_lets _ jp
   have hj : ∀ n st3, B κ a₀ #[] 0 (z0 κ) st3 → Sd κ (sl κ 0 st3) n → a₀.size ≤ 2 * n → n ≤ a₀.size → wpS (model prog w) A E s (jp () n) (SP κ a₀ x) st3 := fun n st3 b3 hs q1 q2 => by
    refine wpS_bind (wpS_get ?_)
    have hb : (pendingOf st3).back? = none := by rw [b3.pend]; rfl
    rw [hb]
    refine wpS_bind (wpS_modify (wpS_pure (SP.go _ _ ?_)))
    rw [Nat.zero_add]
    refine SI.b n _ ⟨b3.perm, b3.kind, b3.failed, ?_, b3.pre⟩ hs q1 q2 (.inl (congrArg (· + 1) hx))
    show (pendingOf st3).push _ = _
    rw [b3.pend]
    rfl
   rw [Nat.sub_zero, hB.size] at m2
   have hf : a₀.size ≤ 2 * min ((arrOf st).size - 0) (minRun' (arrOf st).size (arrOf st).size 0) ∧ min ((arrOf st).size - 0) (minRun' (arrOf st).size (arrOf st).size 0) = minRun' (arrOf st).size (arrOf st).size 0 := by
    have mm := Nat.min_eq_right hm.1
    rw [Nat.sub_zero]
    exact ⟨by rw [mm, ← hB.size]; exact hm.2, mm⟩
   refine wpS_ite (fun d => wpS_bind (wpS_lift (wpAny_rule ⟨rfl, wpS_bind (wpS_binarySort (n := min ((arrOf st).size - 0) (minRun' (arrOf st).size (arrOf st).size 0)) hO h0 ?_ m1 ?_ b2 hs2 fun st3 b3 hs3 => wpS_ite (fun q => nomatch q) fun _ => hj _ _ b3 hs3 hf.1 ?_)⟩))) fun d => hj _ _ b2 hs2 ?_ m2
   ·rw [hf.2, ← hB.size, Nat.zero_add]; exact hm.1
   ·rw [hf.2]; exact Nat.le_of_lt d
   ·show min ((arrOf st).size - 0) (minRun' (arrOf st).size (arrOf st).size 0) ≤ a₀.size
    rw [hf.2, ← hB.size]; exact hm.1
   ·have d : ¬ m < minRun' (arrOf st).size (arrOf st).size 0 := d
    rw [← hB.size]
    exact Nat.le_trans hm.2 (Nat.mul_le_mul_left 2 (Nat.not_lt.mp d))
  | b n _ b hs0 k1 k2 hx =>
   have hm1 := hm.1
   have hm2 := hm.2
   rw [hB.size] at hm1 hm2
   refine wpS_ite (fun c => wpS_pure (SP.fin _ _ ?_)) fun c => ?_
   ·have c : n ≥ (arrOf st).size := c
    rw [hB.size] at c
    have : n = a₀.size := Nat.le_antisymm k2 c
    subst this
    exact .b _ b hs0
   ·have c : ¬ n ≥ (arrOf st).size := c
    rw [hB.size] at c
    have b' : B κ a₀ #[(0, n, 0)] n (KK κ (arrOf st1)) st1 := ⟨b.perm, b.kind, b.failed, b.pend, fun _ _ => rfl⟩
    refine wpS_bind (wpS_countRun hO h0 (show n + ((arrOf st).size - n) ≤ a₀.size by rw [hB.size]; exact Nat.le_of_eq (ar4 k2)) (show 1 ≤ (arrOf st).size - n by rw [hB.size]; exact Nat.sub_pos_of_lt (Nat.not_le.mp c)) b' fun m st2 b2 m1 m2 hs2 => ?_)
    dsimp -zeta only
    extract_lets _ jp
    have hj : ∀ m st3, B κ a₀ #[(0, n, 0)] n (KK κ (arrOf st1)) st3 → Sd κ (sl κ n st3) m → n + m = a₀.size → wpS (model prog w) A E s (jp () m) (SP κ a₀ x) st3 := fun m st3 b3 hs q1 => by
     refine wpS_bind (wpS_get ?_)
     have hb : (pendingOf st3).back? = some (0, n, 0) := by rw [b3.pend]; rfl
     rw [hb]
     dsimp -zeta only
     extract_lets _ jp2 pw
     have none1 : (if (pendingOf st3).size > 1 then (pendingOf st3)[(pendingOf st3).size - 2]? else none) = none := by rw [b3.pend]; rfl
     refine wpS_bind (wpS_mono (wpS_forRange (I := fun _ c st' => c = (none, ()) ∧ st' = st3) (Q := fun c st' => c = (none, ()) ∧ st' = st3) ?_ (fun _ _ q => q) ⟨rfl, rfl⟩) ?_)
     ·rintro _ _ _ _ _ ⟨rfl, rfl⟩
      refine wpS_bind (wpS_get ?_)
      dsimp only
      rw [none1]
      exact wpS_pure ⟨rfl, rfl⟩
     ·rintro _ st4 ⟨rfl, rfl⟩
      refine wpS_bind (wpS_modify (wpS_bind (wpS_modify (wpS_pure (SP.go _ _ ?_)))))
      show SI κ a₀ (x + 1) (none, n + m) _
      rw [q1]
      refine SI.c n m pw _ ⟨b3.perm, b3.kind, b3.failed, ?_, fun i q => absurd q (Nat.not_lt_zero _)⟩ (fun i j i1 i2 => ?_) hs (Nat.pos_of_ne_zero fun z => absurd (Nat.le_trans h1 (z ▸ k1)) (by decide)) (Nat.pos_of_ne_zero fun z => c (by rw [← q1, z]; exact Nat.le_refl _)) q1
      ·show ((pendingOf st4).modify ((pendingOf st4).size - 1) fun x => (x.fst, x.2.fst, pw)).push _ = _
       rw [b3.pend]
       rfl
      ·have e : ∀ i, i < n → KK κ (arrOf st4) (0 + i) = KK κ (arrOf st1) (0 + i) := fun i hi => by rw [Nat.zero_add]; exact b3.pre i hi
       unfold sl at hs ⊢
       refine cast ?_ (hs0 i j i1 i2)
       exact (congr (congrArg κ.kle (e i (Nat.lt_of_le_of_lt i1 i2))) (e j i2)).symm
    have hsM : a₀.size - n ≤ minRun' a₀.size a₀.size 0 := Nat.le_of_mul_le_mul_left (Nat.le_trans (by rw [Nat.two_mul]; exact Nat.le_trans (Nat.add_le_add_right (Nat.sub_le_of_le_add (Nat.two_mul n ▸ k1)) _) (Nat.le_of_eq (ar4 k2))) hm2) (by decide : 0 < 2)
    have hf : min ((arrOf st).size - n) (minRun' (arrOf st).size (arrOf st).size 0) = a₀.size - n := by rw [hB.size]; exact Nat.min_eq_left hsM
    rw [hB.size] at m2
    refine wpS_ite (fun d => wpS_bind (wpS_lift (wpAny_rule ⟨rfl, wpS_bind (wpS_binarySort (n := min ((arrOf st).size - n) (minRun' (arrOf st).size (arrOf st).size 0)) hO h0 ?_ m1 ?_ b2 hs2 fun st3 b3 hs3 => wpS_ite (fun q => nomatch q) fun _ => hj _ _ b3 hs3 ?_)⟩))) fun d => hj _ _ b2 hs2 ?_
    ·rw [hf]; exact Nat.le_of_eq (ar4 k2)
    ·rw [hf]; exact m2
    ·show n + min ((arrOf st).size - n) (minRun' (arrOf st).size (arrOf st).size 0) = a₀.size
     rw [hf]; exact ar4 k2
    ·have d : ¬ m < minRun' (arrOf st).size (arrOf st).size 0 := d
     rw [hB.size] at d
     exact (congrArg (n + ·) (Nat.le_antisymm m2 (Nat.le_trans hsM (Nat.not_lt.mp d)))).trans (ar4 k2)
  | c n m pw _ b hs hs' k1 k2 k3 =>
   refine wpS_ite (fun _ => wpS_pure (SP.fin _ _ (.c n m pw _ b hs hs' k1 k2 k3))) fun c => ?_
   have c : ¬ a₀.size ≥ (arrOf st).size := c
   rw [hB.size] at c
   exact absurd (Nat.le_refl _) c
 ·intro c st' q
  rw [show max 0 (arrOf st).size = a₀.size by rw [hB.size]; exact Nat.max_eq_right (Nat.zero_le _)] at q
  cases q with
  | a st b hx => exact absurd (hx ▸ h1 : 64 ≤ 0) (by decide)
  | b n st b h _ _ hx =>
   have : n = a₀.size := hx.resolve_left fun z => absurd (z ▸ h1 : 64 ≤ 1) (by decide)
   subst this
   exact .b _ b h
  | c n m pw st b h h' h1 h2 h3 => exact .c n m pw _ b h h' h1 h2 h3
 ·intro c st' q
  cases q with
  | b _ b hs =>
   refine wpS_bind (wpS_mono (wpS_forRange (I := fun _ c st'' => c = (none, ()) ∧ st'' = st') (Q := fun c st'' => c = (none, ()) ∧ st'' = st') ?_ (fun _ _ q => q) ⟨rfl, rfl⟩) ?_)
   ·rintro _ _ _ _ _ ⟨rfl, rfl⟩
    refine wpS_bind (wpS_get ?_)
    exact wpS_ite (fun _ => wpS_pure ⟨rfl, rfl⟩) fun q => absurd (show (pendingOf _).size ≤ 1 by rw [b.pend]; exact Nat.le_refl 1) q
   ·rintro _ _ ⟨rfl, rfl⟩
    refine wpS_pure (h _ b.perm b.failed fun i j i1 i2 => ?_)
    have := hs i j i1 i2
    unfold sl at this
    rwa [Nat.zero_add, Nat.zero_add] at this
  | c n m pw _ b hs hs' k1 k2 k3 =>
   obtain ⟨kd, X, pn, g, fl⟩ := st'
   obtain rfl : kd = oneType' := b.kind
   obtain rfl : pn = #[(0, n, pw), (n, m, 0)] := b.pend
   obtain rfl : fl = none := b.failed
   have perm : X.Perm a₀ := b.perm
   have size : X.size = a₀.size := perm.size_eq
   refine wpS_bind (wpS_mono (wpS_forRange (I := fun x c st'' => c = (none, ()) ∧ (x = 0 ∧ st'' = SortSt.mk' oneType' X #[(0, n, pw), (n, m, 0)] g none ∨ 0 < x ∧ ∃ Y g', st'' = SortSt.mk' oneType' Y #[(0, n + m, pw)] g' none ∧ Srt (le κ) X.toList Y.toList))
    (Q := fun c st'' => c = (none, ()) ∧ ∃ Y g', st'' = SortSt.mk' oneType' Y #[(0, n + m, pw)] g' none ∧ Srt (le κ) X.toList Y.toList) ?_ ?_ ⟨rfl, .inl ⟨rfl, rfl⟩⟩) ?_)
   ·rintro x _ _ _ _ ⟨rfl, ⟨rfl, rfl⟩ | ⟨q, Y, g', rfl, hY⟩⟩
    ·refine wpS_bind (wpS_get ?_)
     refine wpS_ite (fun q => absurd q (show ¬ (2 : Nat) ≤ 1 by decide)) fun _ => wpS_bind (wpS_mergeAt hO ?_ (k3.trans size.symm) k1 k2 ?_ ?_ fun Y g' hY => wpS_ite (fun q => nomatch q) fun _ => wpS_pure ⟨rfl, .inr ⟨Nat.succ_pos _, Y, g', rfl, hY⟩⟩)
     ·exact fun p hp => h0 p ((Array.perm_iff_toList_perm.mp perm).mem_iff.mp hp)
     ·exact sd_pw (lo := 0) hs (show 0 + n ≤ X.size by rw [size, ← k3, Nat.zero_add]; exact Nat.le_add_right n m)
     ·have := sd_pw hs' (Nat.le_of_eq (k3.trans size.symm))
      have q : X.size - n ≤ m := by rw [size, ← k3, Nat.add_sub_cancel_left]; exact Nat.le_refl m
      rwa [List.take_of_length_le (by rw [List.length_drop, Array.length_toList]; exact q)] at this
    ·refine wpS_bind (wpS_get ?_)
     exact wpS_ite (fun _ => wpS_pure ⟨rfl, Y, g', rfl, hY⟩) fun q => absurd (Nat.le_refl 1) q
   ·rintro _ _ ⟨rfl, ⟨q, _⟩ | ⟨_, q⟩⟩
    ·exact absurd (show max 0 (arrOf st).size = 0 from q) (by rw [hB.size, Nat.max_eq_right (Nat.zero_le _)]; exact fun z => absurd (z ▸ h1 : 64 ≤ 0) (by decide))
    ·exact ⟨rfl, q⟩
   ·rintro _ _ ⟨rfl, Y, g', rfl, hY⟩
    have py : Y.Perm X := Array.perm_iff_toList_perm.mpr hY.perm
    refine wpS_pure (h _ (py.trans perm) rfl ?_)
    have := pw_sd hY.srt
    rwa [py.size_eq, size] at this
end
end SR
end
section
open PySem PySem.W PyProof.Rows PySem.Spec
namespace SR
section
variable {prog : Program} {w : World} {A : Around} {E : Value → Shared → Prop} {s : Shared}
theorem sort_strs {a : Addr} {vs : List Value} {ss : List Str} {n : Nat} {P : Fin → Shared → Prop} (ho : s.heap.get? a = some (seqObj "list" vs.toArray n)) (hS : StrsAre vs ss) (h1 : 64 ≤ vs.length) (h2 : vs.length < 128)
  (h : ∀ st' : SortSt, (arrOf st').Perm (pairsOf vs) → SortedToK strKind (arrOf st') (pairsOf vs).size → P (.done (.ret .none)) { s with heap := sortedHeap s.heap a vs ((arrOf st').map (·.2)) }) :
  wpAny (model prog w) A (Builtin.«list.sort» ⟨[.ref a], []⟩) P E s := by
 have small : ∀ k, k ≤ 128 → k ≤ sizeLine + 1 := fun k q => by rw [sizeLine_eq]; omega
 have ha := Heap.lt_size ho
 rw [list_sort_plain]
 refine wpAny_bind (listItems_at ho rfl (wpAny_bind (listUpdate_at ho rfl ?_)))
 have cleared := get?_update_seq ho (fun _ => #[])
 refine wpAny_bind (seqEpoch_at cleared rfl (wpAny_bind (wpAny_newTuple (wpAny_bind (wpAny_newList (wpAny_holding ?_))))))
 have still : (((s.heap.update a (Obj.mapSeq fun _ => #[])).push (seqObj "tuple" vs.toArray 0)).push (seqObj "list" #[] 0)).get? a = some (seqObj "list" #[] _) := Heap.get?_push_of_some _ (Heap.get?_push_of_some _ cleared)
 have big : ¬ vs.toArray.size < 2 := by rw [List.size_toArray]; omega
 rw [if_neg big, if_neg big]
 have kind : keyKind' vs.toArray = pure oneType' := by
  match vs, h1, hS with
  | v :: u :: r, _, hS => exact keyKind_strs hS
 rw [kind]
 refine wpAny_bind (wpAny_pure (wpAny_bind (wpAny_mono (wpS_sortRuns (κ := strKind) strKind_oneLt (a₀ := pairsOf vs) (st := SortSt.mk' oneType' (vs.toArray.zip vs.toArray) #[] 7 none)
  (Q := fun _ st' => (arrOf st').Perm (pairsOf vs) ∧ failedOf st' = none ∧ SortedToK strKind (arrOf st') (pairsOf vs).size) hS.keysOf ⟨Array.Perm.refl _, rfl, rfl, rfl, fun i q => absurd q (Nat.not_lt_zero _)⟩ (by rw [pairsOf_size]; exact h1) (by rw [pairsOf_size]; exact h2) fun st' a1 a2 a3 => ⟨a1, a2, a3⟩) ?_ fun _ _ e => e)))
 rintro ⟨⟨⟩, st'⟩ s' ⟨rfl, hp, hf, hs⟩
 refine wpAny_bind (seqEpoch_at still rfl (wpAny_bind (listUpdate_at still rfl ?_ (hsz2 := by
  refine small _ (Nat.le_trans (Nat.le_of_eq ((Array.size_map ..).trans (hp.size_eq.trans (pairsOf_size _)))) (Nat.le_of_lt h2))))))
 rw [hf]
 simp only [bne_self_eq_false, Bool.false_eq_true, if_false]
 exact wpAny_pure (h st' hp hs)
theorem sorted_strs {l : Addr} {vs : List Value} {ss : List Str} {Q : Value → Shared → Prop} (hl : s.heap.IsList l vs.toArray) (hS : StrsAre vs ss) (h2 : vs.length < 128)
  (h : ∀ (out : Array Value) (ss' : List Str), StrsAre out.toList ss' → ss'.Perm ss → sortedS ss' = true → Q (.ref (s.heap.objs.size + 1)) { s with heap := sortedAll s.heap vs out }) :
  wpAny (model prog w) A (call (.builtin "sorted") [.ref l]) Q E s := by
 rcases Nat.lt_or_ge vs.length 64 with h1 | h1
 ·exact PyProof.Rows.sorted_strs hl hS h1 h
 ·refine Calls.call_function_entry kind_sorted plain_sorted entry_sorted (args_sorted1 _) ?_
  unfold Builtin.«sorted»
  refine wpAny_bind (m := checkCount "sorted" 1 1 _) (wpAny_pure (wpAny_bind (collect_list hl (wpAny_bind (wpAny_newList ?_)))))
  have hsz : ((s.heap.push (seqObj "list" #[] 0)).update s.heap.objs.size (Obj.mapSeq (· ++ vs.toArray))).objs.size = s.heap.objs.size + 1 := by
   rw [Heap.size_update, size_push']
  have ho : (((s.heap.push (seqObj "list" #[] 0)).update s.heap.objs.size (Obj.mapSeq (· ++ vs.toArray))).push (seqObj "list" vs.toArray 0)).get? (s.heap.objs.size + 1) = some (seqObj "list" vs.toArray 0) := by
   rw [← hsz]; exact Heap.get?_push_size _ rfl
  show wpAny _ _ _ _ _ { s with heap := ((s.heap.push (seqObj "list" #[] 0)).update s.heap.objs.size (Obj.mapSeq (· ++ vs.toArray))).push (seqObj "list" vs.toArray 0) }
  rw [hsz]
  refine wpAny_bind (wpAny_holding (wpAny_call_entry slot_list_sort ⟨_, ho, rfl⟩ entry_list_sort (sort_strs ho hS h1 h2 fun st' hp hs => ⟨_, rfl, ?_⟩) (args_list_sort _)))
  obtain ⟨ss', q1, q2, q3⟩ := sorted_out_str hS hp hs
  exact wpAny_pure ⟨_, rfl, h _ ss' q1 q2 q3⟩
end
end SR
end
section
set_option genSizeOf false
set_option genSizeOfSpec false
set_option genInjectivity false
inductive BOp | add | sub | mul | fdiv | mod | rsh | band
inductive COp | eq | ne | lt | isIn | notIn
inductive Bi | len | sorted | min | range | enumerate | type
inductive Me | rfind | startswith | endswith | rstrip | split | join | get
set_option genCtorIdx false
inductive Tg
 | one (i : Nat) (p : Pos)
 | two (i : Nat) (p : Pos) (j : Nat) (q : Pos) (k : Nat) (r : Pos)
mutual
inductive X
 | var (i : Nat) (p : Pos)
 | int (n : Int) (k : Nat) (p : Pos)
 | str (x : Str) (k : Nat) (p : Pos)
 | bool (b : Bool) (k : Nat) (p : Pos)
 | neg (e : X) (p : Pos)
 | bin (op : BOp) (a b : X) (p : Pos)
 | cmp (op : COp) (a b : X) (p : Pos)
 | ite (t a b : X) (p : Pos)
 | not (a : X) (p : Pos)
 | and (a b : X) (p : Pos)
 | or (a b : X) (p : Pos)
 | item (a b : X) (p : Pos)
 | slice (a : X) (lo hi : OX) (ps p : Pos)
 | rev (a : X) (k : Nat) (pc pn ps p : Pos)
 | list (es : XS) (p : Pos)
 | tup (es : XS) (k : Nat) (p : Pos)
 | dict (ks vs : XS) (p : Pos)
 | lcomp (e : X) (gs : GS) (sc : Scope) (p : Pos)
 | dcomp (k v : X) (gs : GS) (sc : Scope) (p : Pos)
 | call (f : Nat) (fp : Pos) (as : XS) (p : Pos)
 | bi (b : Bi) (fp : Pos) (as : XS) (p : Pos)
 | meth (m : Me) (o : X) (ap : Pos) (as : XS) (p : Pos)
 | isSB (e : X) (p1 p2 p3 : Pos) (k : Nat) (p4 p : Pos)
 | isB (e : X) (p1 p2 p : Pos)
inductive XS
 | nil
 | cons (e : X) (r : XS)
inductive OX
 | none
 | some (e : X)
inductive GS
 | nil
 | cons (t : Tg) (src : X) (ifs : XS) (r : GS)
end
set_option genCtorIdx true
noncomputable def BOp.py : BOp → Operator
 | .add => .Add | .sub => .Sub | .mul => .Mult | .fdiv => .FloorDiv | .mod => .Mod | .rsh => .RShift | .band => .BitAnd
noncomputable def COp.py : COp → CmpOp
 | .eq => .Eq | .ne => .NotEq | .lt => .Lt | .isIn => .In | .notIn => .NotIn
noncomputable def Bi.py : Bi → Str
 | .len => "len" | .sorted => "sorted" | .min => "min" | .range => "range" | .enumerate => "enumerate" | .type => "type"
noncomputable def Me.py : Me → Str
 | .rfind => "rfind" | .startswith => "startswith" | .endswith => "endswith" | .rstrip => "rstrip" | .split => "split" | .join => "join" | .get => "get"
section
variable (nm : Nat → Str) (fn : Nat → Str)
noncomputable def Tg.py : Tg → Expr
 | .one i p => .Name (nm i) p
 | .two i p j q k r => .Tuple [.Name (nm i) p, .Name (nm j) q] k r
mutual
noncomputable def X.py : X → Expr
 | .var i p => .Name (nm i) p
 | .int n k p => .Constant (.int n) k p
 | .str x k p => .Constant (.str x) k p
 | .bool b k p => .Constant (.bool b) k p
 | .neg e p => .UnaryOp .USub e.py p
 | .bin op a b p => .BinOp a.py op.py b.py p
 | .cmp op a b p => .Compare a.py [op.py] [b.py] p
 | .ite t a b p => .IfExp t.py a.py b.py p
 | .not a p => .UnaryOp .Not a.py p
 | .and a b p => .BoolOp .And [a.py, b.py] p
 | .or a b p => .BoolOp .Or [a.py, b.py] p
 | .item a b p => .Subscript a.py b.py p
 | .slice a lo hi ps p => .Subscript a.py (.Slice lo.py hi.py none ps) p
 | .rev a k pc pn ps p => .Subscript a.py (.Slice none none (some (.UnaryOp .USub (.Constant (.int 1) k pc) pn)) ps) p
 | .list es p => .List es.py p
 | .tup es k p => .Tuple es.py k p
 | .dict ks vs p => .Dict ks.opy vs.py p
 | .lcomp e gs sc p => .ListComp e.py gs.py sc p
 | .dcomp k v gs sc p => .DictComp k.py v.py gs.py sc p
 | .call f fp as p => .Call (.Name (fn f) fp) as.py [] p
 | .bi b fp as p => .Call (.Name b.py fp) as.py [] p
 | .meth m o ap as p => .Call (.Attribute o.py m.py ap) as.py [] p
 | .isSB e p1 p2 p3 k p4 p => .Call (.Name "issubclass" p1) [e.py, .Tuple [.Name "str" p2, .Name "bytes" p3] k p4] [] p
 | .isB e p1 p2 p => .Call (.Name "isinstance" p1) [e.py, .Name "bytes" p2] [] p
noncomputable def XS.py : XS → List Expr
 | .nil => []
 | .cons e r => e.py :: r.py
noncomputable def XS.opy : XS → List (Option Expr)
 | .nil => []
 | .cons e r => some e.py :: r.opy
noncomputable def OX.py : OX → Option Expr
 | .none => Option.none
 | .some e => Option.some e.py
noncomputable def GS.py : GS → List Comprehension
 | .nil => []
 | .cons t src ifs r => ⟨t.py nm, src.py, ifs.py, 0⟩ :: r.py
end
end
noncomputable def ltS (a b : Str) : Bool := decide (a.cps.toList < b.cps.toList)
noncomputable def insS (x : Str) : List Str → List Str
 | [] => [x]
 | y :: r => if ltS y x then y :: insS x r else x :: y :: r
noncomputable def sortS : List Str → List Str
 | [] => []
 | x :: r => insS x (sortS r)
noncomputable def strsOf : List D → Option (List Str)
 | [] => some []
 | .str x :: r => (strsOf r).map (x :: ·)
 | _ :: _ => none
noncomputable def intsOf : List D → Option (List Int)
 | [] => some []
 | .int x :: r => (intsOf r).map (x :: ·)
 | _ :: _ => none
noncomputable def strLine : Nat := 100000
noncomputable def listLine : Nat := 100000
noncomputable def binD : BOp → D → D → Option D
 | .add, .int a, .int b => some (.int (a + b))
 | .add, .str a, .str b => if a.length + b.length ≤ strLine then some (.str (a ++ b)) else none
 | .add, .lst a, .lst b => if a.length + b.length ≤ listLine then some (.lst (a ++ b)) else none
 | .sub, .int a, .int b => some (.int (a - b))
 | .mul, .int a, .int b => if a.natAbs < 2 ^ 4096 ∧ b.natAbs < 2 ^ 4096 then some (.int (a * b)) else none
 | .mul, .str a, .int n => if a.length ≤ 16 ∧ 0 ≤ n ∧ n ≤ 100000 then some (.str (Txt.mul a n)) else none
 | .fdiv, .int a, .int b => if b ≠ 0 ∧ a.natAbs < 2 ^ 62 ∧ b.natAbs < 2 ^ 62 then some (.int (a.fdiv b)) else none
 | .mod, .int a, .int b => if b ≠ 0 then some (.int (a.fmod b)) else none
 | .rsh, .int a, .int b => if 0 ≤ b then some (.int (a.fdiv (2 ^ b.toNat))) else none
 | .band, .int a, .int b => some (.int (Builtin.bitAnd a b))
 | _, _, _ => none
noncomputable def eqStrs (a b : List D) : Option Bool := match strsOf a, strsOf b with
 | some x, some y => if x.length ≤ 1000 then some (decide (x = y)) else none
 | _, _ => none
noncomputable def isNil : List D → Bool
 | [] => true
 | _ => false
noncomputable def pairOf : D → Option (Int × Int)
 | .tup [.int a, .int b] => some (a, b)
 | _ => none
noncomputable def pairsOf' : List D → Option (List (Int × Int))
 | [] => some []
 | d :: r => match pairOf d, pairsOf' r with
  | some p, some ps => some (p :: ps)
  | _, _ => none
noncomputable def inD : D → D → Option Bool
 | .str x, .str y => some (Txt.contains y x)
 | .str x, .lst ds => (strsOf ds).map fun ys => ys.any fun y => y == x
 | .int x, .lst ds => (intsOf ds).map fun ys => ys.any fun y => y == x
 | .str x, .dct ks _ => some (ks.contains x)
 | .tup ts, .lst ds => (pairOf (.tup ts)).bind fun p => (pairsOf' ds).map fun ps => ps.any fun q => q == p
 | _, _ => none
noncomputable def lookD : List Str → List D → Str → Option D
 | k :: ks, d :: ds, x => if k = x then some d else lookD ks ds x
 | _, _, _ => none
noncomputable def cmpD : COp → D → D → Option Bool
 | .eq, .int a, .int b => some (a == b)
 | .ne, .int a, .int b => some (a != b)
 | .lt, .int a, .int b => some (decide (a < b))
 | .ne, .str a, .str b => some (a != b)
 | .eq, .lst a, .lst [] => some (isNil a)
 | .ne, .lst a, .lst b => (eqStrs a b).map (!·)
 | .isIn, a, b => inD a b
 | .notIn, a, b => (inD a b).map (!·)
 | _, _, _ => none
noncomputable def truthD : D → Option Bool
 | .bool b => some b
 | .int i => some (i != 0)
 | .str x => if x.length ≤ strLine then some ((x.length : Int) != 0) else none
 | .lst ds => if ds.length ≤ listLine then some (!isNil ds) else none
 | _ => none
noncomputable def idxOf (i : Int) (n : Nat) : Option Nat := if 0 ≤ i then (if i < n then some i.toNat else none) else if 0 ≤ i + n then some (i + n).toNat else none
noncomputable def storeD : List Str → List D → Str → D → List Str × List D
 | k :: ks, d :: ds, x, v => if k = x then (k :: ks, v :: ds) else (k :: (storeD ks ds x v).1, d :: (storeD ks ds x v).2)
 | _, _, x, v => ([x], [v])
noncomputable def itemD : D → D → Option D
 | .lst ds, .int i => (idxOf i ds.length).bind fun k => if ds.length ≤ listLine then ds[k]? else none
 | .tup ds, .int i => (idxOf i ds.length).bind fun k => if ds.length ≤ listLine then ds[k]? else none
 | .dct ks ds, .str x => lookD ks ds x
 | _, _ => none
noncomputable def cutAt (n : Nat) : Option D → Nat → Option Nat
 | none, d => some d
 | some (.int i), _ => if 0 ≤ i then some (min i.toNat n) else none
 | _, _ => none
noncomputable def partO : Option D → Option (Option Int)
 | none => some none
 | some (.int i) => some (some i)
 | _ => none
noncomputable def sliceD (a : D) (lo hi : Option D) : Option D := match a with
 | .lst ds => match cutAt ds.length lo 0, cutAt ds.length hi ds.length with
  | some i, some j => if ds.length ≤ listLine then some (.lst ((ds.take j).drop i)) else none
  | _, _ => none
 | .str x => match partO lo, partO hi with
  | some i, some j => if x.length ≤ strLine then some (.str (Txt.slice x i j)) else none
  | _, _ => none
 | _ => none
noncomputable def rangeD (a b : Int) : List D := (List.range (b - a).toNat).map fun (k : Nat) => .int (a + (k : Int))
noncomputable def enumD : Nat → List D → List D
 | _, [] => []
 | k, d :: r => .tup [.int k, d] :: enumD (k + 1) r
noncomputable def sumLen (xs : List Str) : Nat := (xs.map (·.length)).sum
noncomputable def biD : Bi → List D → Option D
 | .len, [.lst ds] => if ds.length ≤ listLine then some (.int ds.length) else none
 | .len, [.str x] => if x.length ≤ strLine then some (.int x.length) else none
 | .sorted, [.lst ds] => (strsOf ds).bind fun xs => if xs.length < 128 then some (.lst ((sortS xs).map .str)) else none
 | .min, [.int a, .int b] => some (.int (if b < a then b else a))
 | .type, [.str _] => some (.ty "str")
 | _, _ => none
noncomputable def meD : Me → D → List D → Option D
 | .rfind, .str x, [.str y] => some (.int (Txt.rfind x y))
 | .startswith, .str x, [.str y] => some (.bool (Txt.startswith x y))
 | .endswith, .str x, [.str y] => some (.bool (Txt.endswith x y))
 | .rstrip, .str x, [.str y] => if x.length ≤ strLine then some (.str (Txt.rstripChars x y)) else none
 | .split, .str x, [.str y] => if x.length ≤ strLine ∧ y.length ≠ 0 then some (.lst ((Txt.split x y).map .str)) else none
 | .join, .str x, [.lst ds] => (strsOf ds).bind fun ys => if x.length ≤ 16 ∧ sumLen ys + ys.length ≤ strLine then some (.str (Txt.join x ys)) else none
 | .get, .dct ks ds, [.str x, d] => some ((lookD ks ds x).getD d)
 | _, _, _ => none
abbrev V := D × Bool
abbrev Rho := Nat → Option V
noncomputable def itV (d : D) (t : Bool) : V := (d, t && !d.atom)
structure FE where
 name : Str
 exact : Bool
 need : Nat
 g : List D → Option D
noncomputable def untaint (vs : List V) : Bool := vs.all fun v => !v.2
noncomputable def bindTg : Tg → V → Rho → Option Rho
 | .one i _, v, r => some fun k => if k = i then some v else r k
 | .two i _ j _ _ _, (.tup [a, b], t), r => some fun k => if k = j then some (itV b t) else if k = i then some (itV a t) else r k
 | _, _, _ => none
noncomputable def tgVars : Tg → List Nat
 | .one i _ => [i]
 | .two i _ j _ _ _ => [i, j]
noncomputable def gsVars : GS → List Nat
 | .nil => []
 | .cons t _ _ r => tgVars t ++ gsVars r
noncomputable def kvsOf : List D → Option (List (Str × D))
 | [] => some []
 | .tup [.str x, d] :: r => (kvsOf r).map ((x, d) :: ·)
 | _ :: _ => none
noncomputable def putAll (kvs : List (Str × D)) : List Str × List D := kvs.foldl (fun (m : List Str × List D) kv => storeD m.1 m.2 kv.1 kv.2) ([], [])
noncomputable def collectM {β : Type} (f : D → Option (List β)) : List D → Option (List β)
 | [] => some []
 | d :: r => match f d, collectM f r with
  | some x, some y => some (x ++ y)
  | _, _ => none
noncomputable def rel (sc₀ sc : Scope) : Scope := { sc with names := sc.names.map fun (n, k) => if (k == .free && sc₀.kind == .function && sc₀.names.lookup n == some .cell) then (n, .cell) else (n, k) }
noncomputable def isG (sc : Scope) (x : Str) : Bool := sc.names.lookup x == some .globalImplicit
noncomputable def rangeOf (g : Bool) : List V → Option (List D × Bool × Bool)
 | [(.int a, _)] => if g && decide (a.natAbs < 1000) then some (rangeD 0 a, false, false) else none
 | [(.int a, _), (.int b, _)] => if g && decide (a.natAbs < 1000 ∧ b.natAbs < 1000) then some (rangeD a b, false, false) else none
 | _ => none
noncomputable def enumOf (g : Bool) : List V → Option (List D × Bool × Bool)
 | [(.lst ds, t)] => if g && decide (ds.length ≤ listLine) then some (enumD 0 ds, t, true) else none
 | _ => none
noncomputable def srcOf : Option V → Option (List D × Bool × Bool)
 | some (.lst ds, t) => if ds.length ≤ listLine then some (ds, t, false) else none
 | some (.tup ds, t) => if ds.length ≤ listLine then some (ds, t, false) else none
 | some (.str x, _) => if x.length ≤ strLine then some (x.cps.toList.map fun c => .str ⟨#[c]⟩, false, false) else none
 | _ => none
noncomputable def compOk (sc₀ sc : Scope) : Bool := sc.kind == .function && decide (sc.names.map (·.1)).Nodup && sc.names.all fun x => x.2 != .free || (sc₀.names.lookup x.1 == some .cell || sc₀.names.lookup x.1 == some .free)
noncomputable def putOk (sc : Scope) (x : Str) : Bool := sc.names.lookup x == some .local || sc.names.lookup x == some .cell
noncomputable def X.base : X → Bool
 | .call .. | .bi .. | .isSB .. | .isB .. => false
 | _ => true
noncomputable def Tg.two? : Tg → Bool
 | .one .. => false
 | .two .. => true
noncomputable def GS.single : GS → Bool
 | .cons _ _ _ .nil => true
 | _ => false
noncomputable def varsOk (nm : Nat → Str) (sc : Scope) (gs : GS) : Bool := (gsVars gs).all (fun i => putOk sc (nm i)) && decide (gsVars gs).Nodup
section
variable (nm : Nat → Str) (fn : Nat → Str) (FT : List FE)
noncomputable def inner (sc : Scope) (r : Rho) : Rho := fun k => if sc.names.lookup (nm k) == some .free then r k else none
mutual
noncomputable def ev : Nat → Scope → X → Bool → Rho → Option V
 | 0, _, _, _, _ => none
 | n + 1, sc, e, tp, r => match e with
  | .var i _ => r i
  | .int n _ _ => some (.int n, false)
  | .str x _ _ => some (.str x, false)
  | .bool b _ _ => some (.bool b, false)
  | .neg e _ => match ev n sc e tp r with
   | some (.int i, _) => some (.int (-i), false)
   | _ => none
  | .bin op a b _ => match ev n sc a tp r, ev n sc b tp r with
   | some x, some y => (binD op x.1 y.1).map fun d => itV d (x.2 || y.2)
   | _, _ => none
  | .cmp op a b _ => match ev n sc a tp r, ev n sc b tp r with
   | some x, some y => (cmpD op x.1 y.1).map fun b => (.bool b, false)
   | _, _ => none
  | .ite t a b _ => match evT n sc t tp r with
   | some true => ev n sc a tp r
   | some false => ev n sc b tp r
   | none => none
  | .not .. => none
  | .and .. => none
  | .or .. => none
  | .item a b _ => match ev n sc a tp r, ev n sc b tp r with
   | some x, some y => (itemD x.1 y.1).map fun d => itV d x.2
   | _, _ => none
  | .slice a lo hi _ _ => match ev n sc a tp r, evO n sc lo tp r, evO n sc hi tp r with
   | some x, some l, some h => (sliceD x.1 l h).map fun d => itV d x.2
   | _, _, _ => none
  | .rev a _ _ _ _ _ => match ev n sc a tp r with
   | some (.lst ds, t) => if ds.length ≤ listLine then some (.lst ds.reverse, t) else none
   | _ => none
  | .list es _ => match evs n sc es tp r with
   | some vs => if vs.length ≤ 1000 then some (.lst (vs.map (·.1)), !untaint vs) else none
   | none => none
  | .tup es _ _ => match evs n sc es tp r with
   | some vs => if vs.length ≤ 1000 then some (.tup (vs.map (·.1)), !untaint vs) else none
   | none => none
  | .dict ks vs _ => match ks with
   | .nil => match vs with
    | .nil => some (.dct [] [], false)
    | _ => none
   | ks => match evP n sc ks vs tp r with
    | some kvs => if kvs.length ≤ 15 ∧ 0 < kvs.length ∧ (kvs.map (·.1)).Nodup ∧ untaint (kvs.map (·.2)) then some (.dct (kvs.map (·.1)) (kvs.map (·.2.1)), false) else none
    | _ => none
  | .lcomp e gs sc' _ => if compOk sc sc' && varsOk nm sc' gs then match evG0 n sc gs tp r with
   | some (items, tn, en) => match evG n (rel sc sc') gs items tn en (inner nm sc' r) (fun r' => match ev n (rel sc sc') e false r' with
     | some v => some [v]
     | none => none) with
    | some vs => if vs.length ≤ listLine ∧ untaint vs then some (.lst (vs.map (·.1)), false) else none
    | none => none
   | none => none else none
  | .dcomp k v gs sc' _ => if compOk sc sc' && varsOk nm sc' gs && gs.single then match evG0 n sc gs tp r with
   | some (items, tn, en) => match evG n (rel sc sc') gs items tn en (inner nm sc' r) (fun r' => match ev n (rel sc sc') k false r', ev n (rel sc sc') v false r' with
     | some (.str x, _), some (d, false) => some [(.tup [.str x, d], false)]
     | _, _ => none) with
    | some vs => if vs.length ≤ listLine then (kvsOf (vs.map (·.1))).map fun kvs => (let m := putAll kvs; (.dct m.1 m.2, false)) else none
    | none => none
   | none => none else none
  | .call f _ as _ => match FT[f]?, evs n sc as tp r with
   | some fe, some vs => if isG sc (fn f) && (tp || fe.exact) && decide (0 < vs.length ∧ vs.length < 10) then (fe.g (vs.map (·.1))).map fun d => itV d (!untaint vs) else none
   | _, _ => none
  | .bi b _ as _ => match evs n sc as tp r with
   | some vs => if isG sc b.py && decide (0 < vs.length ∧ vs.length < 10) then (biD b (vs.map (·.1))).map fun d => (d, false) else none
   | _ => none
  | .meth m o ap as p => match ev n sc o tp r, evs n sc as tp r with
   | some x, some vs => if ap.endLine == p.line && o.base && decide (0 < vs.length ∧ vs.length < 10) then (meD m x.1 (vs.map (·.1))).map fun d => itV d (x.2 || !untaint vs) else none
   | _, _ => none
  | .isSB e .. => match ev n sc e tp r with
   | some (.ty "str", _) => if isG sc "issubclass" && isG sc "str" && isG sc "bytes" then some (.bool true, false) else none
   | _ => none
  | .isB e .. => match ev n sc e tp r with
   | some (.str _, _) => if isG sc "isinstance" && isG sc "bytes" then some (.bool false, false) else none
   | _ => none
noncomputable def evs : Nat → Scope → XS → Bool → Rho → Option (List V)
 | 0, _, _, _, _ => none
 | n + 1, sc, es, tp, ρ => match es with
  | .nil => some []
  | .cons e r => match ev n sc e tp ρ, evs n sc r tp ρ with
   | some v, some vs => some (v :: vs)
   | _, _ => none
noncomputable def evP : Nat → Scope → XS → XS → Bool → Rho → Option (List (Str × V))
 | 0, _, _, _, _, _ => none
 | n + 1, sc, ks, vs, tp, ρ => match ks, vs with
  | .nil, .nil => some []
  | .cons k ks, .cons v vs => match ev n sc k tp ρ, ev n sc v tp ρ, evP n sc ks vs tp ρ with
   | some (.str x, _), some v, some r => some ((x, v) :: r)
   | _, _, _ => none
  | _, _ => none
noncomputable def evO : Nat → Scope → OX → Bool → Rho → Option (Option D)
 | 0, _, _, _, _ => none
 | n + 1, sc, e, tp, ρ => match e with
  | .none => some Option.none
  | .some e => match ev n sc e tp ρ with
   | some (.int i, _) => some (some (.int i))
   | _ => none
noncomputable def evT : Nat → Scope → X → Bool → Rho → Option Bool
 | 0, _, _, _, _ => none
 | n + 1, sc, e, tp, r => match e with
  | .not a _ => (evT n sc a tp r).map (!·)
  | .and a b _ => match evT n sc a tp r with
   | some true => evT n sc b tp r
   | some false => some false
   | none => none
  | .or a b _ => match evT n sc a tp r with
   | some true => some true
   | some false => evT n sc b tp r
   | none => none
  | .ite .. => none
  | .cmp op a b _ => match ev n sc a tp r, ev n sc b tp r with
   | some x, some y => cmpD op x.1 y.1
   | _, _ => none
  | e => match ev n sc e tp r with
   | some v => truthD v.1
   | none => none
noncomputable def evSrc : Nat → Scope → X → Bool → Rho → Option (List D × Bool × Bool)
 | 0, _, _, _, _ => none
 | n + 1, sc, e, tp, r => match e with
  | .bi .range _ as _ => match evs n sc as tp r with
   | some vs => rangeOf (isG sc "range") vs
   | none => none
  | .bi .enumerate _ as _ => match evs n sc as tp r with
   | some vs => enumOf (isG sc "enumerate") vs
   | none => none
  | e => srcOf (ev n sc e tp r)
noncomputable def evG0 : Nat → Scope → GS → Bool → Rho → Option (List D × Bool × Bool)
 | 0, _, _, _, _ => none
 | n + 1, sc, g, tp, r => match g with
  | .nil => none
  | .cons _ src _ _ => evSrc n sc src tp r
noncomputable def evG : Nat → Scope → GS → List D → Bool → Bool → Rho → (Rho → Option (List V)) → Option (List V)
 | 0, _, _, _, _, _, _, _ => none
 | n + 1, sc, g, items, tn, en, r, emit => match g with
  | .nil => none
  | .cons t _ ifs rest => if t.two? == en then collectM (fun d => match bindTg t (itV d tn) r with
   | some r' => match evIfs n sc ifs r' with
    | some true => match rest with
     | .nil => emit r'
     | rest => match evG0 n sc rest false r' with
      | some (items', tn', en') => evG n sc rest items' tn' en' r' emit
      | none => none
    | some false => some []
    | none => none
   | none => none) items else none
noncomputable def evIfs : Nat → Scope → XS → Rho → Option Bool
 | 0, _, _, _ => none
 | n + 1, sc, e, ρ => match e with
  | .nil => some true
  | .cons e r => match evT n sc e false ρ with
   | some true => evIfs n sc r ρ
   | some false => some false
   | none => none
end
end
end
section
namespace Q
section
variable {nm fn : Nat → Str} {FT : List FE} {n : Nat} {sc : Scope} {tp : Bool} {r : Rho}
theorem var (i : Nat) (p : Pos) : ev nm fn FT (n + 1) sc (.var i p) tp r = r i := rfl
theorem int (i : Int) (k : Nat) (p : Pos) : ev nm fn FT (n + 1) sc (.int i k p) tp r = some (.int i, false) := rfl
theorem str (x : Str) (k : Nat) (p : Pos) : ev nm fn FT (n + 1) sc (.str x k p) tp r = some (.str x, false) := rfl
theorem bool (b : Bool) (k : Nat) (p : Pos) : ev nm fn FT (n + 1) sc (.bool b k p) tp r = some (.bool b, false) := rfl
theorem neg (e : X) (p : Pos) : ev nm fn FT (n + 1) sc (.neg e p) tp r = (match ev nm fn FT n sc e tp r with
   | some (.int i, _) => some (.int (-i), false)
   | _ => none) := rfl
theorem bin (op : BOp) (a b : X) (p : Pos) : ev nm fn FT (n + 1) sc (.bin op a b p) tp r = (match ev nm fn FT n sc a tp r, ev nm fn FT n sc b tp r with
   | some x, some y => (binD op x.1 y.1).map fun d => itV d (x.2 || y.2)
   | _, _ => none) := rfl
theorem cmp (op : COp) (a b : X) (p : Pos) : ev nm fn FT (n + 1) sc (.cmp op a b p) tp r = (match ev nm fn FT n sc a tp r, ev nm fn FT n sc b tp r with
   | some x, some y => (cmpD op x.1 y.1).map fun b => (.bool b, false)
   | _, _ => none) := rfl
theorem ite (t a b : X) (p : Pos) : ev nm fn FT (n + 1) sc (.ite t a b p) tp r = (match evT nm fn FT n sc t tp r with
   | some true => ev nm fn FT n sc a tp r
   | some false => ev nm fn FT n sc b tp r
   | none => none) := rfl
theorem item (a b : X) (p : Pos) : ev nm fn FT (n + 1) sc (.item a b p) tp r = (match ev nm fn FT n sc a tp r, ev nm fn FT n sc b tp r with
   | some x, some y => (itemD x.1 y.1).map fun d => itV d x.2
   | _, _ => none) := rfl
theorem slice (a : X) (lo hi : OX) (ps p : Pos) : ev nm fn FT (n + 1) sc (.slice a lo hi ps p) tp r = (match ev nm fn FT n sc a tp r, evO nm fn FT n sc lo tp r, evO nm fn FT n sc hi tp r with
   | some x, some l, some h => (sliceD x.1 l h).map fun d => itV d x.2
   | _, _, _ => none) := rfl
theorem rev (a : X) (k : Nat) (pc pn ps p : Pos) : ev nm fn FT (n + 1) sc (.rev a k pc pn ps p) tp r = (match ev nm fn FT n sc a tp r with
   | some (.lst ds, t) => if ds.length ≤ listLine then some (.lst ds.reverse, t) else none
   | _ => none) := rfl
theorem list (es : XS) (p : Pos) : ev nm fn FT (n + 1) sc (.list es p) tp r = (match evs nm fn FT n sc es tp r with
   | some vs => if vs.length ≤ 1000 then some (.lst (vs.map (·.1)), !untaint vs) else none
   | none => none) := rfl
theorem tup (es : XS) (k : Nat) (p : Pos) : ev nm fn FT (n + 1) sc (.tup es k p) tp r = (match evs nm fn FT n sc es tp r with
   | some vs => if vs.length ≤ 1000 then some (.tup (vs.map (·.1)), !untaint vs) else none
   | none => none) := rfl
theorem dict0 (p : Pos) : ev nm fn FT (n + 1) sc (.dict .nil .nil p) tp r = some (.dct [] [], false) := rfl
theorem dict (k : X) (ks vs : XS) (p : Pos) : ev nm fn FT (n + 1) sc (.dict (.cons k ks) vs p) tp r = (match evP nm fn FT n sc (.cons k ks) vs tp r with
    | some kvs => if kvs.length ≤ 15 ∧ 0 < kvs.length ∧ (kvs.map (·.1)).Nodup ∧ untaint (kvs.map (·.2)) then some (.dct (kvs.map (·.1)) (kvs.map (·.2.1)), false) else none
    | _ => none) := rfl
theorem lcomp (e : X) (gs : GS) (sc' : Scope) (p : Pos) : ev nm fn FT (n + 1) sc (.lcomp e gs sc' p) tp r = (if compOk sc sc' && varsOk nm sc' gs then match evG0 nm fn FT n sc gs tp r with
   | some (items, tn, en) => match evG nm fn FT n (rel sc sc') gs items tn en (inner nm sc' r) (fun r' => match ev nm fn FT n (rel sc sc') e false r' with
     | some v => some [v]
     | none => none) with
    | some vs => if vs.length ≤ listLine ∧ untaint vs then some (.lst (vs.map (·.1)), false) else none
    | none => none
   | none => none else none) := rfl
theorem dcomp (k v : X) (gs : GS) (sc' : Scope) (p : Pos) : ev nm fn FT (n + 1) sc (.dcomp k v gs sc' p) tp r = (if compOk sc sc' && varsOk nm sc' gs && gs.single then match evG0 nm fn FT n sc gs tp r with
   | some (items, tn, en) => match evG nm fn FT n (rel sc sc') gs items tn en (inner nm sc' r) (fun r' => match ev nm fn FT n (rel sc sc') k false r', ev nm fn FT n (rel sc sc') v false r' with
     | some (.str x, _), some (d, false) => some [(.tup [.str x, d], false)]
     | _, _ => none) with
    | some vs => if vs.length ≤ listLine then (kvsOf (vs.map (·.1))).map fun kvs => (let m := putAll kvs; (.dct m.1 m.2, false)) else none
    | none => none
   | none => none else none) := rfl
theorem call (f : Nat) (fp : Pos) (as : XS) (p : Pos) : ev nm fn FT (n + 1) sc (.call f fp as p) tp r = (match FT[f]?, evs nm fn FT n sc as tp r with
   | some fe, some vs => if isG sc (fn f) && (tp || fe.exact) && decide (0 < vs.length ∧ vs.length < 10) then (fe.g (vs.map (·.1))).map fun d => itV d (!untaint vs) else none
   | _, _ => none) := rfl
theorem bi (b : Bi) (fp : Pos) (as : XS) (p : Pos) : ev nm fn FT (n + 1) sc (.bi b fp as p) tp r = (match evs nm fn FT n sc as tp r with
   | some vs => if isG sc b.py && decide (0 < vs.length ∧ vs.length < 10) then (biD b (vs.map (·.1))).map fun d => (d, false) else none
   | _ => none) := rfl
theorem meth (m : Me) (o : X) (ap : Pos) (as : XS) (p : Pos) : ev nm fn FT (n + 1) sc (.meth m o ap as p) tp r = (match ev nm fn FT n sc o tp r, evs nm fn FT n sc as tp r with
   | some x, some vs => if ap.endLine == p.line && o.base && decide (0 < vs.length ∧ vs.length < 10) then (meD m x.1 (vs.map (·.1))).map fun d => itV d (x.2 || !untaint vs) else none
   | _, _ => none) := rfl
theorem isSB (e : X) (p1 p2 p3 : Pos) (k : Nat) (p4 p : Pos) : ev nm fn FT (n + 1) sc (.isSB e p1 p2 p3 k p4 p) tp r = (match ev nm fn FT n sc e tp r with
   | some (.ty "str", _) => if isG sc "issubclass" && isG sc "str" && isG sc "bytes" then some (.bool true, false) else none
   | _ => none) := rfl
theorem isB (e : X) (p1 p2 p : Pos) : ev nm fn FT (n + 1) sc (.isB e p1 p2 p) tp r = (match ev nm fn FT n sc e tp r with
   | some (.str _, _) => if isG sc "isinstance" && isG sc "bytes" then some (.bool false, false) else none
   | _ => none) := rfl
theorem nil : evs nm fn FT (n + 1) sc .nil tp r = some [] := rfl
theorem cons (e : X) (es : XS) : evs nm fn FT (n + 1) sc (.cons e es) tp r = (match ev nm fn FT n sc e tp r, evs nm fn FT n sc es tp r with
   | some v, some vs => some (v :: vs)
   | _, _ => none) := rfl
theorem pcons (k v : X) (ks vs : XS) : evP nm fn FT (n + 1) sc (.cons k ks) (.cons v vs) tp r = (match ev nm fn FT n sc k tp r, ev nm fn FT n sc v tp r, evP nm fn FT n sc ks vs tp r with
   | some (.str x, _), some v, some r => some ((x, v) :: r)
   | _, _, _ => none) := rfl
theorem onone : evO nm fn FT (n + 1) sc .none tp r = some Option.none := rfl
theorem osome (e : X) : evO nm fn FT (n + 1) sc (.some e) tp r = (match ev nm fn FT n sc e tp r with
   | some (.int i, _) => some (some (.int i))
   | _ => none) := rfl
theorem tnot (a : X) (p : Pos) : evT nm fn FT (n + 1) sc (.not a p) tp r = (evT nm fn FT n sc a tp r).map (!·) := rfl
theorem tand (a b : X) (p : Pos) : evT nm fn FT (n + 1) sc (.and a b p) tp r = (match evT nm fn FT n sc a tp r with
   | some true => evT nm fn FT n sc b tp r
   | some false => some false
   | none => none) := rfl
theorem tor (a b : X) (p : Pos) : evT nm fn FT (n + 1) sc (.or a b p) tp r = (match evT nm fn FT n sc a tp r with
   | some true => some true
   | some false => evT nm fn FT n sc b tp r
   | none => none) := rfl
theorem tcmp (op : COp) (a b : X) (p : Pos) : evT nm fn FT (n + 1) sc (.cmp op a b p) tp r = (match ev nm fn FT n sc a tp r, ev nm fn FT n sc b tp r with
   | some x, some y => cmpD op x.1 y.1
   | _, _ => none) := rfl
theorem tvar (i : Nat) (p : Pos) : evT nm fn FT (n + 1) sc (.var i p) tp r = (match ev nm fn FT n sc (.var i p) tp r with
   | some v => truthD v.1
   | none => none) := rfl
theorem tmeth (m : Me) (o : X) (ap : Pos) (as : XS) (p : Pos) : evT nm fn FT (n + 1) sc (.meth m o ap as p) tp r = (match ev nm fn FT n sc (.meth m o ap as p) tp r with
   | some v => truthD v.1
   | none => none) := rfl
theorem tisSB (e : X) (p1 p2 p3 : Pos) (k : Nat) (p4 p : Pos) : evT nm fn FT (n + 1) sc (.isSB e p1 p2 p3 k p4 p) tp r = (match ev nm fn FT n sc (.isSB e p1 p2 p3 k p4 p) tp r with
   | some v => truthD v.1
   | none => none) := rfl
theorem tisB (e : X) (p1 p2 p : Pos) : evT nm fn FT (n + 1) sc (.isB e p1 p2 p) tp r = (match ev nm fn FT n sc (.isB e p1 p2 p) tp r with
   | some v => truthD v.1
   | none => none) := rfl
theorem tbin (op : BOp) (a b : X) (p : Pos) : evT nm fn FT (n + 1) sc (.bin op a b p) tp r = (match ev nm fn FT n sc (.bin op a b p) tp r with
   | some v => truthD v.1
   | none => none) := rfl
theorem srange (fp : Pos) (as : XS) (p : Pos) : evSrc nm fn FT (n + 1) sc (.bi .range fp as p) tp r = (match evs nm fn FT n sc as tp r with
   | some vs => rangeOf (isG sc (Bi.py .range)) vs
   | none => none) := rfl
theorem rg1 (g : Bool) (a : Int) (t : Bool) : rangeOf g [(.int a, t)] = if g && decide (a.natAbs < 1000) then some (rangeD 0 a, false, false) else none := rfl
theorem senum (fp : Pos) (as : XS) (p : Pos) : evSrc nm fn FT (n + 1) sc (.bi .enumerate fp as p) tp r = (match evs nm fn FT n sc as tp r with
   | some vs => enumOf (isG sc (Bi.py .enumerate)) vs
   | none => none) := rfl
theorem en1 (g : Bool) (ds : List D) (t : Bool) : enumOf g [(.lst ds, t)] = if g && decide (ds.length ≤ listLine) then some (enumD 0 ds, t, true) else none := rfl
theorem svar (i : Nat) (p : Pos) : evSrc nm fn FT (n + 1) sc (.var i p) tp r = srcOf (ev nm fn FT n sc (.var i p) tp r) := rfl
theorem sitem (a b : X) (p : Pos) : evSrc nm fn FT (n + 1) sc (.item a b p) tp r = srcOf (ev nm fn FT n sc (.item a b p) tp r) := rfl
theorem sslice (a : X) (lo hi : OX) (ps p : Pos) : evSrc nm fn FT (n + 1) sc (.slice a lo hi ps p) tp r = srcOf (ev nm fn FT n sc (.slice a lo hi ps p) tp r) := rfl
theorem srev (a : X) (k : Nat) (pc pn ps p : Pos) : evSrc nm fn FT (n + 1) sc (.rev a k pc pn ps p) tp r = srcOf (ev nm fn FT n sc (.rev a k pc pn ps p) tp r) := rfl
theorem g0 (t : Tg) (src : X) (ifs : XS) (g : GS) : evG0 nm fn FT (n + 1) sc (.cons t src ifs g) tp r = evSrc nm fn FT n sc src tp r := rfl
theorem g1 (t : Tg) (src : X) (ifs : XS) (items : List D) (tn en : Bool) (emit : Rho → Option (List V)) : evG nm fn FT (n + 1) sc (.cons t src ifs .nil) items tn en r emit = (if t.two? == en then collectM (fun d => match bindTg t (itV d tn) r with
   | some r' => match evIfs nm fn FT n sc ifs r' with
    | some true => emit r'
    | some false => some []
    | none => none
   | none => none) items else none) := rfl
theorem inil : evIfs nm fn FT (n + 1) sc .nil r = some true := rfl
theorem icons (e : X) (es : XS) : evIfs nm fn FT (n + 1) sc (.cons e es) r = (match evT nm fn FT n sc e false r with
   | some true => evIfs nm fn FT n sc es r
   | some false => some false
   | none => none) := rfl
end
end Q
end
section
noncomputable def frA (fr : List Env) : Addr → Prop := fun a => a ∈ fr.filterMap (·.frame)
noncomputable def SS (fr : List Env) (tp : Bool) : Addr → Prop := fun a => tp = true ∧ frA fr a
structure Cx (A : Around) (fr : List Env) (base h : Heap) (N : Nat) : Prop where
 hd : A.handled = none
 frs : A.frames = some fr
 stay : base.StaysIn h
 ff : h.FunFrames base fr
 dep : A.depth + N ≤ 990
 un : A.units + 16 * N + 200 ≤ cLine
 low : ∃ b o, sysModules ≤ b ∧ h.get? b = some o
theorem Cx.step {A : Around} {fr : List Env} {base h h' : Heap} {N : Nat} {tp : Bool} (x : Cx A fr base h N) (k : Kp (SS fr tp) h h') : Cx A fr base h' N :=
 ⟨x.hd, x.frs, fun b o e => k.out b o (fun hS => by rw [(x.ff.mem hS.2).1] at e; cases e) (x.stay b o e),
  x.ff.of_keeps fun b o e _ => let ⟨_, e'⟩ := k.all b o e; ⟨_, e', rfl⟩, x.dep, x.un, let ⟨b, o, q, e⟩ := x.low; let ⟨_, e'⟩ := k.all _ o e; ⟨b, _, q, e'⟩⟩
structure EnvG (env : Env) : Prop where
 kind : env.scope.kind = .function
 gl : env.globals = mainGlobals
 bl : env.builtins = builtinsNs
structure Fm (env : Env) (h : Heap) (σ : Str → Option Value) : Prop where
 ns : ∃ m, h.Ns env.locals m ∧ ∀ x, env.kindOf x = some .local → m x = σ x
 cell : ∀ x, (env.kindOf x = some .cell ∨ env.kindOf x = some .free) → ∃ c, env.cells.lookup x = some c ∧ h.IsCell c (σ x)
 inj : ∀ x y c, env.kindOf x = some .cell → (env.kindOf y = some .cell ∨ env.kindOf y = some .free) → env.cells.lookup x = some c → env.cells.lookup y = some c → x = y
theorem Fm.step {env : Env} {h h' : Heap} {σ : Str → Option Value} {S : Addr → Prop} (k : Kp S h h') (y : Fm env h σ) : Fm env h' σ :=
 ⟨let ⟨m, a, b⟩ := y.ns; ⟨m, k.ns a, b⟩, fun x hx => let ⟨c, a, b⟩ := y.cell x hx; ⟨c, a, k.cell b⟩, y.inj⟩
noncomputable def Fm.at (env : Env) (T : Str → Prop) : Addr → Prop := fun a => a = env.locals ∨ ∃ x, T x ∧ env.kindOf x = some .cell ∧ env.cells.lookup x = some a
noncomputable def Fm.all (env : Env) : Addr → Prop := fun a => a = env.locals ∨ ∃ x, (env.kindOf x = some .cell ∨ env.kindOf x = some .free) ∧ env.cells.lookup x = some a
noncomputable def seenK (k : Option NameKind) : Prop := k = some .local ∨ k = some .cell ∨ k = some .free
noncomputable def Holds (env : Env) (h : Heap) (x : Str) (v : Value) : Prop :=
 (env.kindOf x = some .local ∧ ∃ m, h.Ns env.locals m ∧ m x = some v) ∨
 ((env.kindOf x = some .cell ∨ env.kindOf x = some .free) ∧ ∃ c, env.cells.lookup x = some c ∧ h.IsCell c (some v))
theorem Fm.holds {env : Env} {h : Heap} {σ : Str → Option Value} (y : Fm env h σ) {x : Str} {v : Value} (hk : seenK (env.kindOf x)) (hv : σ x = some v) : Holds env h x v := by
 rcases hk with hk | hk | hk
 ·obtain ⟨m, a, b⟩ := y.ns; exact .inl ⟨hk, m, a, (b x hk).trans hv⟩
 ·obtain ⟨c, a, b⟩ := y.cell x (.inl hk); exact .inr ⟨.inl hk, c, a, hv ▸ b⟩
 ·obtain ⟨c, a, b⟩ := y.cell x (.inr hk); exact .inr ⟨.inr hk, c, a, hv ▸ b⟩
section
variable (prog : Program) (w : World) (nm : Nat → Str)
noncomputable def Mean (env : Env) (h : Heap) (W : Bool → Addr → Prop) (σ : Str → Option Value) (ρ : Rho) : Prop :=
 ∀ i d t, ρ i = some (d, t) → seenK (env.kindOf (nm i)) ∧ ∃ u, σ (nm i) = some u ∧ R prog w h (W t) u d
structure EOk (env : Env) (sc : Scope) (h : Heap) (W : Bool → Addr → Prop) (ρ : Rho) : Prop where
 g : EnvG env
 sc : env.scope = sc
 fm : ∃ σ, Fm env h σ ∧ Mean prog w nm env h W σ ρ
end
structure WOk (fr : List Env) (W : Bool → Addr → Prop) (h : Heap) : Prop where
 fr : ∀ a, frA fr a → W true a
 le : ∀ a, W true a → W false a
 al : ∀ a, W false a → ∃ o, h.get? a = some o
theorem WOk.fr' {fr : List Env} {W : Bool → Addr → Prop} {h : Heap} (x : WOk fr W h) (tp t : Bool) : ∀ a, SS fr tp a → W t a := fun a hS => by
 cases t with
 | true => exact x.fr a hS.2
 | false => exact x.le a (x.fr a hS.2)
theorem WOk.new {fr : List Env} {W : Bool → Addr → Prop} {h : Heap} (x : WOk fr W h) (t : Bool) {a : Addr} (e : h.get? a = none) : ¬ W t a := fun q => by
 have q' : W false a := by cases t with | true => exact x.le a q | false => exact q
 obtain ⟨o, ho⟩ := x.al a q'
 rw [e] at ho; cases ho
section
variable {prog : Program} {w : World} {nm : Nat → Str}
theorem R.weak {h : Heap} {fr : List Env} {W : Bool → Addr → Prop} (x : WOk fr W h) (t t' : Bool) (ht : t = true → t' = true) {v : Value} {d : D} (r : R prog w h (W t) v d) : R prog w h (W t') v d :=
 r.mono (fun _ _ _ e => e) fun a q => .inl (by
  cases t <;> cases t' <;> first | exact q | exact x.le a q | cases ht rfl)
theorem RL.weak {h : Heap} {fr : List Env} {W : Bool → Addr → Prop} (x : WOk fr W h) (t t' : Bool) (ht : t = true → t' = true) {v : List Value} {d : List D} (r : RL prog w h (W t) v d) : RL prog w h (W t') v d :=
 r.mono (fun _ _ _ e => e) fun a q => .inl (by
  cases t <;> cases t' <;> first | exact q | exact x.le a q | cases ht rfl)
structure St (A : Around) (fr : List Env) (base : Heap) (N : Nat) (env : Env) (sc : Scope) (W : Bool → Addr → Prop) (ρ : Rho) (s : Shared) : Prop where
 cx : Cx A fr base s.heap N
 e : EOk prog w nm env sc s.heap W ρ
 wo : WOk fr W s.heap
 tk : 0 ≤ s.toks
end
section
variable {prog : Program} {w : World} {nm : Nat → Str} {A : Around} {fr : List Env} {base : Heap} {N : Nat} {env : Env} {sc : Scope} {W : Bool → Addr → Prop} {ρ : Rho} {s : Shared}
theorem WOk.step {S : Addr → Prop} {h h' : Heap} (x : WOk fr W h) (k : Kp S h h') : WOk fr W h' := ⟨x.fr, x.le, fun a q => let ⟨o, e⟩ := x.al a q; let ⟨_, e'⟩ := k.all a o e; ⟨_, e'⟩⟩
theorem EOk.step {tp : Bool} {h h' : Heap} (wo : WOk fr W h) (x : EOk prog w nm env sc h W ρ) (k : Kp (SS fr tp) h h') : EOk prog w nm env sc h' W ρ :=
 ⟨x.g, x.sc, let ⟨σ, a, b⟩ := x.fm; ⟨σ, a.step k, fun i d t e => let ⟨q, u, a, b⟩ := b i d t e; ⟨q, u, a, k.R (wo.fr' tp t) b⟩⟩⟩
theorem St.step {tp : Bool} {h' : Heap} {tk : Nat} (x : St (prog := prog) (w := w) (nm := nm) A fr base N env sc W ρ s) (hn : s.toks ≤ tk) (k : Kp (SS fr tp) s.heap h') : St (prog := prog) (w := w) (nm := nm) A fr base N env sc W ρ (up s h' tk) :=
 ⟨x.cx.step k, x.e.step x.wo k, x.wo.step k, Nat.le_trans x.tk hn⟩
end
abbrev EvP (prog : Program) (w : World) (fr : List Env) (W : Bool → Addr → Prop) (tp : Bool) (h : Heap) (v : V) : Value → Heap → Prop :=
 fun u h' => Kp (SS fr tp) h h' ∧ R prog w h' (W v.2) u v.1
inductive RVs (prog : Program) (w : World) (h : Heap) (W : Bool → Addr → Prop) : List Value → List V → Prop
 | nil : RVs prog w h W [] []
 | cons {u : Value} {us : List Value} {v : V} {vs : List V} : R prog w h (W v.2) u v.1 → RVs prog w h W us vs → RVs prog w h W (u :: us) (v :: vs)
abbrev EvsP (prog : Program) (w : World) (fr : List Env) (W : Bool → Addr → Prop) (tp : Bool) (h : Heap) (vs : List V) : List Value → Heap → Prop :=
 fun us h' => Kp (SS fr tp) h h' ∧ RVs prog w h' W us vs
section
variable {prog : Program} {w : World} {fr : List Env} {W : Bool → Addr → Prop} {h h' : Heap}
theorem RVs.step {tp : Bool} (wo : WOk fr W h) (k : Kp (SS fr tp) h h') {us : List Value} {vs : List V} (x : RVs prog w h W us vs) : RVs prog w h' W us vs := by
 induction x with
 | nil => exact .nil
 | cons r _ ih => exact .cons (k.R (wo.fr' tp _) r) ih
theorem RVs.length {us : List Value} {vs : List V} (x : RVs prog w h W us vs) : us.length = vs.length := by
 induction x with
 | nil => rfl
 | cons _ _ ih => rw [List.length_cons, List.length_cons, ih]
@[elab_as_elim] theorem RVs.one {us : List Value} {v : V} {m : List Value → Prop} (x : RVs prog w h W us [v]) (k : ∀ u, R prog w h (W v.2) u v.1 → m [u]) : m us := by
 cases x with | cons a x => cases x; exact k _ a
@[elab_as_elim] theorem RVs.two {us : List Value} {v v' : V} {m : List Value → Prop} (x : RVs prog w h W us [v, v']) (k : ∀ u u', R prog w h (W v.2) u v.1 → R prog w h (W v'.2) u' v'.1 → m [u, u']) : m us := by
 cases x with | cons a x => exact x.one fun b r => k _ b a r
@[elab_as_elim] theorem RVs.three {us : List Value} {v v' v'' : V} {m : List Value → Prop} (x : RVs prog w h W us [v, v', v'']) (k : ∀ u u' u'', R prog w h (W v.2) u v.1 → R prog w h (W v'.2) u' v'.1 → R prog w h (W v''.2) u'' v''.1 → m [u, u', u'']) : m us := by
 cases x with | cons a x => exact x.two fun b c r r' => k _ b c a r r'
theorem RVs.rl (wo : WOk fr W h) {us : List Value} {vs : List V} (x : RVs prog w h W us vs) (t : Bool) (ht : untaint vs = false → t = true) : RL prog w h (W t) us (vs.map (·.1)) := by
 induction x with
 | nil => exact .nil
 | @cons u us v vs r _ ih =>
  refine .cons (r.weak wo _ _ fun q => ht (by simp [untaint, q])) (ih fun q => ht ?_)
  simp only [untaint, List.all_cons, Bool.and_eq_false_iff] at q ⊢
  exact .inr q
end
section
variable {prog : Program} {w : World} {A : Around} {s : Shared} {env : Env}
theorem isBool_of {h : Heap} {W : Addr → Prop} {u : Value} {b : Bool} (r : R prog w h W u (.bool b)) : u = .bool b := by cases r; rfl
theorem isTy_of {h : Heap} {W : Addr → Prop} {u : Value} {T : String} (r : R prog w h W u (.ty T)) : u = .type T := by cases r; rfl
theorem isList_of_sq {h : Heap} {a : Addr} {vs : List Value} {n : Nat} (e : h.get? a = some (sq "list" vs n)) : h.IsList a vs.toArray := ⟨_, e, rfl, n, rfl⟩
theorem isTup_of_sq {h : Heap} {a : Addr} {vs : List Value} {n : Nat} (e : h.get? a = some (sq "tuple" vs n)) : IsTup h a vs.toArray := ⟨_, e, rfl, n, rfl⟩
end
end
section
section
variable {a b d : D} {r : Bool} {ds : List D}
@[elab_as_elim] theorem binE {m : BOp → D → D → D → Prop} {op : BOp} (e : binD op a b = some d)
  (h0 : ∀ a b : Int, m .add (.int a) (.int b) (.int (a + b)))
  (h1 : ∀ a b : Str, a.length + b.length ≤ strLine → m .add (.str a) (.str b) (.str (a ++ b)))
  (h2 : ∀ a b : List D, a.length + b.length ≤ listLine → m .add (.lst a) (.lst b) (.lst (a ++ b)))
  (h3 : ∀ a b : Int, m .sub (.int a) (.int b) (.int (a - b)))
  (h4 : ∀ a b : Int, a.natAbs < 2 ^ 4096 ∧ b.natAbs < 2 ^ 4096 → m .mul (.int a) (.int b) (.int (a * b)))
  (h5 : ∀ (a : Str) (n : Int), a.length ≤ 16 ∧ 0 ≤ n ∧ n ≤ 100000 → m .mul (.str a) (.int n) (.str (Txt.mul a n)))
  (h6 : ∀ a b : Int, b ≠ 0 ∧ a.natAbs < 2 ^ 62 ∧ b.natAbs < 2 ^ 62 → m .fdiv (.int a) (.int b) (.int (a.fdiv b)))
  (h7 : ∀ a b : Int, b ≠ 0 → m .mod (.int a) (.int b) (.int (a.fmod b)))
  (h8 : ∀ a b : Int, 0 ≤ b → m .rsh (.int a) (.int b) (.int (a.fdiv (2 ^ b.toNat))))
  (h9 : ∀ a b : Int, m .band (.int a) (.int b) (.int (Builtin.bitAnd a b))) : m op a b d := by
 cases op with
 | add  =>
  cases a with
  | int x1 =>
   cases b with
   | int x2 =>
    exact someE e (h0 _ _)
   | _ =>
    exact optE e
  | str x3 =>
   cases b with
   | str x4 =>
    exact ifE e fun c e => someE e (h1 _ _ c)
   | _ =>
    exact optE e
  | lst x5 =>
   cases b with
   | lst x6 =>
    exact ifE e fun c e => someE e (h2 _ _ c)
   | _ =>
    exact optE e
  | _ =>
   exact optE e
 | sub  =>
  cases a with
  | int x7 =>
   cases b with
   | int x8 =>
    exact someE e (h3 _ _)
   | _ =>
    exact optE e
  | _ =>
   exact optE e
 | mul  =>
  cases a with
  | int x9 =>
   cases b with
   | int x10 =>
    exact ifE e fun c e => someE e (h4 _ _ c)
   | _ =>
    exact optE e
  | str x11 =>
   cases b with
   | int x12 =>
    exact ifE e fun c e => someE e (h5 _ _ c)
   | _ =>
    exact optE e
  | _ =>
   exact optE e
 | fdiv  =>
  cases a with
  | int x13 =>
   cases b with
   | int x14 =>
    exact ifE e fun c e => someE e (h6 _ _ c)
   | _ =>
    exact optE e
  | _ =>
   exact optE e
 | mod  =>
  cases a with
  | int x15 =>
   cases b with
   | int x16 =>
    exact ifE e fun c e => someE e (h7 _ _ c)
   | _ =>
    exact optE e
  | _ =>
   exact optE e
 | rsh  =>
  cases a with
  | int x17 =>
   cases b with
   | int x18 =>
    exact ifE e fun c e => someE e (h8 _ _ c)
   | _ =>
    exact optE e
  | _ =>
   exact optE e
 | band  =>
  cases a with
  | int x19 =>
   cases b with
   | int x20 =>
    exact someE e (h9 _ _)
   | _ =>
    exact optE e
  | _ =>
   exact optE e
@[elab_as_elim] theorem inE {m : D → D → Bool → Prop} (e : inD a b = some r)
  (h0 : ∀ x y : Str, m (.str x) (.str y) (Txt.contains y x))
  (h1 : ∀ (x : Str) ds ys, strsOf ds = some ys → m (.str x) (.lst ds) (ys.any fun y => y == x))
  (h2 : ∀ (x : Int) ds ys, intsOf ds = some ys → m (.int x) (.lst ds) (ys.any fun y => y == x))
  (h3 : ∀ (x : Str) ks ds, m (.str x) (.dct ks ds) (ks.contains x))
  (h4 : ∀ ts ds p ps, pairOf (.tup ts) = some p → pairsOf' ds = some ps → m (.tup ts) (.lst ds) (ps.any fun q => q == p)) : m a b r := by
 cases a with
 | str x21 =>
  cases b with
  | str x22 =>
   exact someE e (h0 _ _)
  | lst x23 =>
   exact mapE e fun ys h => h1 _ _ _ h
  | dct x24 x25 =>
   exact someE e (h3 _ _ _)
  | _ =>
   exact optE e
 | int x26 =>
  cases b with
  | lst x27 =>
   exact mapE e fun ys h => h2 _ _ _ h
  | _ =>
   exact optE e
 | tup x28 =>
  cases b with
  | lst x29 =>
   exact bindE e fun p h1 e => mapE e fun ps h2 => h4 _ _ _ _ h1 h2
  | _ =>
   exact optE e
 | _ =>
  exact optE e
@[elab_as_elim] theorem cmpE {m : COp → D → D → Bool → Prop} {op : COp} (e : cmpD op a b = some r)
  (h0 : ∀ a b : Int, m .eq (.int a) (.int b) (a == b))
  (h1 : ∀ a b : Int, m .ne (.int a) (.int b) (a != b))
  (h2 : ∀ a b : Int, m .lt (.int a) (.int b) (decide (a < b)))
  (h3 : ∀ a b : Str, m .ne (.str a) (.str b) (a != b))
  (h4 : ∀ a : List D, m .eq (.lst a) (.lst []) (isNil a))
  (h5 : ∀ (a b : List D) q, eqStrs a b = some q → m .ne (.lst a) (.lst b) (!q))
  (h6 : ∀ a b r, inD a b = some r → m .isIn a b r)
  (h7 : ∀ a b r, inD a b = some r → m .notIn a b (!r)) : m op a b r := by
 cases op with
 | eq  =>
  cases a with
  | int x30 =>
   cases b with
   | int x31 =>
    exact someE e (h0 _ _)
   | _ =>
    exact optE e
  | lst x32 =>
   cases b with
   | lst x33 =>
    cases x33 with
    | nil  =>
     exact someE e (h4 _)
    | _ =>
     exact optE e
   | _ =>
    exact optE e
  | _ =>
   exact optE e
 | ne  =>
  cases a with
  | int x34 =>
   cases b with
   | int x35 =>
    exact someE e (h1 _ _)
   | _ =>
    exact optE e
  | str x36 =>
   cases b with
   | str x37 =>
    exact someE e (h3 _ _)
   | _ =>
    exact optE e
  | lst x38 =>
   cases b with
   | lst x39 =>
    exact mapE e fun q h => h5 _ _ _ h
   | _ =>
    exact optE e
  | _ =>
   exact optE e
 | lt  =>
  cases a with
  | int x40 =>
   cases b with
   | int x41 =>
    exact someE e (h2 _ _)
   | _ =>
    exact optE e
  | _ =>
   exact optE e
 | isIn  =>
  exact h6 _ _ _ e
 | notIn  =>
  exact mapE e fun q h => h7 _ _ _ h
@[elab_as_elim] theorem itemE {m : D → D → D → Prop} (e : itemD a b = some d)
  (h0 : ∀ ds i k, idxOf i ds.length = some k → ds.length ≤ listLine → ds[k]? = some d → m (.lst ds) (.int i) d)
  (h1 : ∀ ds i k, idxOf i ds.length = some k → ds.length ≤ listLine → ds[k]? = some d → m (.tup ds) (.int i) d)
  (h2 : ∀ ks ds x, lookD ks ds x = some d → m (.dct ks ds) (.str x) d) : m a b d := by
 cases a with
 | lst x42 =>
  cases b with
  | int x43 =>
   exact bindE e fun k h e => ifE e fun c e => h0 _ _ k h c e
  | _ =>
   exact optE e
 | tup x44 =>
  cases b with
  | int x45 =>
   exact bindE e fun k h e => ifE e fun c e => h1 _ _ k h c e
  | _ =>
   exact optE e
 | dct x46 x47 =>
  cases b with
  | str x48 =>
   exact h2 _ _ _ e
  | _ =>
   exact optE e
 | _ =>
  exact optE e
@[elab_as_elim] theorem biE {m : Bi → List D → D → Prop} {op : Bi} (e : biD op ds = some d)
  (h0 : ∀ ds : List D, ds.length ≤ listLine → m .len [.lst ds] (.int ds.length))
  (h1 : ∀ x : Str, x.length ≤ strLine → m .len [.str x] (.int x.length))
  (h2 : ∀ ds xs, strsOf ds = some xs → xs.length < 128 → m .sorted [.lst ds] (.lst ((sortS xs).map .str)))
  (h3 : ∀ a b : Int, m .min [.int a, .int b] (.int (if b < a then b else a)))
  (h4 : ∀ x : Str, m .type [.str x] (.ty "str")) : m op ds d := by
 cases op with
 | len  =>
  cases ds with
  | cons x49 x50 =>
   cases x49 with
   | lst x51 =>
    cases x50 with
    | nil  =>
     exact ifE e fun c e => someE e (h0 _ c)
    | _ =>
     exact optE e
   | str x52 =>
    cases x50 with
    | nil  =>
     exact ifE e fun c e => someE e (h1 _ c)
    | _ =>
     exact optE e
   | _ =>
    exact optE e
  | _ =>
   exact optE e
 | sorted  =>
  cases ds with
  | cons x53 x54 =>
   cases x53 with
   | lst x55 =>
    cases x54 with
    | nil  =>
     exact bindE e fun xs h e => ifE e fun c e => someE e (h2 _ _ h c)
    | _ =>
     exact optE e
   | _ =>
    exact optE e
  | _ =>
   exact optE e
 | min  =>
  cases ds with
  | cons x56 x57 =>
   cases x56 with
   | int x58 =>
    cases x57 with
    | cons x59 x60 =>
     cases x59 with
     | int x61 =>
      cases x60 with
      | nil  =>
       exact someE e (h3 _ _)
      | _ =>
       exact optE e
     | _ =>
      exact optE e
    | _ =>
     exact optE e
   | _ =>
    exact optE e
  | _ =>
   exact optE e
 | type  =>
  cases ds with
  | cons x62 x63 =>
   cases x62 with
   | str x64 =>
    cases x63 with
    | nil  =>
     exact someE e (h4 _)
    | _ =>
     exact optE e
   | _ =>
    exact optE e
  | _ =>
   exact optE e
 | _ =>
  exact optE e
@[elab_as_elim] theorem meE {m : Me → D → List D → D → Prop} {op : Me} (e : meD op a ds = some d)
  (h0 : ∀ x y : Str, m .rfind (.str x) [.str y] (.int (Txt.rfind x y)))
  (h1 : ∀ x y : Str, m .startswith (.str x) [.str y] (.bool (Txt.startswith x y)))
  (h2 : ∀ x y : Str, m .endswith (.str x) [.str y] (.bool (Txt.endswith x y)))
  (h3 : ∀ x y : Str, x.length ≤ strLine → m .rstrip (.str x) [.str y] (.str (Txt.rstripChars x y)))
  (h4 : ∀ x y : Str, x.length ≤ strLine ∧ y.length ≠ 0 → m .split (.str x) [.str y] (.lst ((Txt.split x y).map .str)))
  (h5 : ∀ (x : Str) ds ys, strsOf ds = some ys → x.length ≤ 16 ∧ sumLen ys + ys.length ≤ strLine → m .join (.str x) [.lst ds] (.str (Txt.join x ys)))
  (h6 : ∀ ks ds x d, m .get (.dct ks ds) [.str x, d] ((lookD ks ds x).getD d)) : m op a ds d := by
 cases op with
 | rfind  =>
  cases a with
  | str x65 =>
   cases ds with
   | cons x66 x67 =>
    cases x66 with
    | str x68 =>
     cases x67 with
     | nil  =>
      exact someE e (h0 _ _)
     | _ =>
      exact optE e
    | _ =>
     exact optE e
   | _ =>
    exact optE e
  | _ =>
   exact optE e
 | startswith  =>
  cases a with
  | str x69 =>
   cases ds with
   | cons x70 x71 =>
    cases x70 with
    | str x72 =>
     cases x71 with
     | nil  =>
      exact someE e (h1 _ _)
     | _ =>
      exact optE e
    | _ =>
     exact optE e
   | _ =>
    exact optE e
  | _ =>
   exact optE e
 | endswith  =>
  cases a with
  | str x73 =>
   cases ds with
   | cons x74 x75 =>
    cases x74 with
    | str x76 =>
     cases x75 with
     | nil  =>
      exact someE e (h2 _ _)
     | _ =>
      exact optE e
    | _ =>
     exact optE e
   | _ =>
    exact optE e
  | _ =>
   exact optE e
 | rstrip  =>
  cases a with
  | str x77 =>
   cases ds with
   | cons x78 x79 =>
    cases x78 with
    | str x80 =>
     cases x79 with
     | nil  =>
      exact ifE e fun c e => someE e (h3 _ _ c)
     | _ =>
      exact optE e
    | _ =>
     exact optE e
   | _ =>
    exact optE e
  | _ =>
   exact optE e
 | split  =>
  cases a with
  | str x81 =>
   cases ds with
   | cons x82 x83 =>
    cases x82 with
    | str x84 =>
     cases x83 with
     | nil  =>
      exact ifE e fun c e => someE e (h4 _ _ c)
     | _ =>
      exact optE e
    | _ =>
     exact optE e
   | _ =>
    exact optE e
  | _ =>
   exact optE e
 | join  =>
  cases a with
  | str x85 =>
   cases ds with
   | cons x86 x87 =>
    cases x86 with
    | lst x88 =>
     cases x87 with
     | nil  =>
      exact bindE e fun ys h e => ifE e fun c e => someE e (h5 _ _ _ h c)
     | _ =>
      exact optE e
    | _ =>
     exact optE e
   | _ =>
    exact optE e
  | _ =>
   exact optE e
 | get  =>
  cases a with
  | dct x89 x90 =>
   cases ds with
   | cons x91 x92 =>
    cases x91 with
    | str x93 =>
     cases x92 with
     | cons x94 x95 =>
      cases x95 with
      | nil  =>
       exact someE e (h6 _ _ _ _)
      | _ =>
       exact optE e
     | _ =>
      exact optE e
    | _ =>
     exact optE e
   | _ =>
    exact optE e
  | _ =>
   exact optE e
@[elab_as_elim] theorem truthE {m : D → Bool → Prop} (e : truthD a = some r)
  (h0 : ∀ b, m (.bool b) b)
  (h1 : ∀ i : Int, m (.int i) (i != 0))
  (h2 : ∀ x : Str, x.length ≤ strLine → m (.str x) ((x.length : Int) != 0))
  (h3 : ∀ ds, ds.length ≤ listLine → m (.lst ds) (!isNil ds)) : m a r := by
 cases a with
 | bool x96 =>
  exact someE e (h0 _)
 | int x97 =>
  exact someE e (h1 _)
 | str x98 =>
  exact ifE e fun c e => someE e (h2 _ c)
 | lst x99 =>
  exact ifE e fun c e => someE e (h3 _ c)
 | _ =>
  exact optE e
theorem opt2E {α β γ : Type} {A : Option α} {B : Option β} {f : α → β → Option γ} {d : γ} {G : Prop} (h : (A.bind fun a => B.bind fun b => f a b) = some d) (k : ∀ a b, A = some a → B = some b → f a b = some d → G) : G :=
 bindE h fun a h1 h => bindE h fun b h2 h => k a b h1 h2 h
@[elab_as_elim] theorem sliceE {m : D → D → Prop} {lo hi : Option D} (e : sliceD a lo hi = some d) (h0 : ∀ ds i j, cutAt ds.length lo 0 = some i → cutAt ds.length hi ds.length = some j → ds.length ≤ listLine → m (.lst ds) (.lst ((ds.take j).drop i)))
  (h1 : ∀ x i j, partO lo = some i → partO hi = some j → x.length ≤ strLine → m (.str x) (.str (Txt.slice x i j))) : m a d := by
 cases a with
 | lst ds =>
  have e : ((cutAt ds.length lo 0).bind fun i => (cutAt ds.length hi ds.length).bind fun j => if ds.length ≤ listLine then some (D.lst ((ds.take j).drop i)) else none) = some d := by
   rw [← e]; show _ = (match cutAt ds.length lo 0, cutAt ds.length hi ds.length with
    | some i, some j => if ds.length ≤ listLine then some (D.lst ((ds.take j).drop i)) else none
    | _, _ => none)
   cases cutAt ds.length lo 0 <;> cases cutAt ds.length hi ds.length <;> rfl
  exact opt2E e fun i j a b e => ifE e fun c e => someE e (h0 _ _ _ a b c)
 | str x =>
  have e : ((partO lo).bind fun i => (partO hi).bind fun j => if x.length ≤ strLine then some (D.str (Txt.slice x i j)) else none) = some d := by
   rw [← e]; show _ = (match partO lo, partO hi with
    | some i, some j => if x.length ≤ strLine then some (D.str (Txt.slice x i j)) else none
    | _, _ => none)
   cases partO lo <;> cases partO hi <;> rfl
  exact opt2E e fun i j a b e => ifE e fun c e => someE e (h1 _ _ _ a b c)
 | _ => exact optE e
end
end
section
noncomputable def itemsD : D → Option (List D)
 | .lst ds => if ds.length ≤ listLine then some ds else none
 | .tup ds => if ds.length ≤ listLine then some ds else none
 | .str x => if x.length ≤ strLine then some (x.cps.toList.map fun c => .str ⟨#[c]⟩) else none
 | _ => none
namespace I
section
variable {δ : Type} {d : δ} {G : Prop} {A B : Option V}
noncomputable def intD : D → Option Int
 | .int i => some i
 | _ => none
noncomputable def strD : D → Option Str
 | .str x => some x
 | _ => none
noncomputable def lstD : D → Option (List D)
 | .lst ds => some ds
 | _ => none
noncomputable def tupD : D → Option (List D)
 | .tup ds => some ds
 | _ => none
theorem intD_eq {x : D} {i : Int} (h : intD x = some i) : x = .int i := by cases x <;> first | exact someE h rfl | exact optE h
theorem strD_eq {x : D} {i : Str} (h : strD x = some i) : x = .str i := by cases x <;> first | exact someE h rfl | exact optE h
theorem lstD_eq {x : D} {i : List D} (h : lstD x = some i) : x = .lst i := by cases x <;> first | exact someE h rfl | exact optE h
theorem tupD_eq {x : D} {i : List D} (h : tupD x = some i) : x = .tup i := by cases x <;> first | exact someE h rfl | exact optE h
theorem b1 {f : V → Option δ} (h : (match A with | some x => f x | none => none) = some d) (k : ∀ x, A = some x → f x = some d → G) : G := by
 cases A with
 | none => exact optE h
 | some x => exact k x rfl h
theorem b2 {f : V → V → Option δ} (h : (match A, B with | some x, some y => f x y | _, _ => none) = some d) (k : ∀ x y, A = some x → B = some y → f x y = some d → G) : G := by
 cases A with
 | none => exact optE h
 | some x => cases B with
  | none => exact optE h
  | some y => exact k x y rfl rfl h
theorem mInt {f : Int → Bool → Option δ} (h : (match A with | some (.int i, t) => f i t | _ => none) = some d) (k : ∀ i t, A = some (.int i, t) → f i t = some d → G) : G := by
 rcases A with _ | ⟨x, t⟩
 ·exact optE h
 have e : (match some (x, t) with | some (.int i, t) => f i t | _ => none) = (intD x).bind (fun i => f i t) := by clear h k; cases x <;> rfl
 exact bindE (e.symm.trans h) fun i h1 h2 => k i t (by rw [intD_eq h1]) h2
theorem mLst {f : List D → Bool → Option δ} (h : (match A with | some (.lst i, t) => f i t | _ => none) = some d) (k : ∀ i t, A = some (.lst i, t) → f i t = some d → G) : G := by
 rcases A with _ | ⟨x, t⟩
 ·exact optE h
 have e : (match some (x, t) with | some (.lst i, t) => f i t | _ => none) = (lstD x).bind (fun i => f i t) := by clear h k; cases x <;> rfl
 exact bindE (e.symm.trans h) fun i h1 h2 => k i t (by rw [lstD_eq h1]) h2
theorem mStr {f : Str → Bool → Option δ} (h : (match A with | some (.str i, t) => f i t | _ => none) = some d) (k : ∀ i t, A = some (.str i, t) → f i t = some d → G) : G := by
 rcases A with _ | ⟨x, t⟩
 ·exact optE h
 have e : (match some (x, t) with | some (.str i, t) => f i t | _ => none) = (strD x).bind (fun i => f i t) := by clear h k; cases x <;> rfl
 exact bindE (e.symm.trans h) fun i h1 h2 => k i t (by rw [strD_eq h1]) h2
theorem mSF {f : Str → D → Option δ} (h : (match A, B with | some (.str x, _), some (d, false) => f x d | _, _ => none) = some d) (k : ∀ x t v, A = some (.str x, t) → B = some (v, false) → f x v = some d → G) : G := by
 rcases A with _ | ⟨x, t⟩
 ·exact optE h
 have e : (match (generalizing := false) some (x, t), B with | some (.str x, _), some (d, false) => f x d | _, _ => none) = (strD x).bind (fun x => match B with | some (d, false) => f x d | _ => none) := by
  clear h k; cases x <;> first | rfl | (rcases B with _ | ⟨_, _ | _⟩ <;> rfl)
 refine bindE (e.symm.trans h) fun x h1 h => ?_
 rcases B with _ | ⟨v, _ | _⟩
 ·exact optE h
 ·exact k x t v (by rw [strD_eq h1]) rfl h
 ·exact optE h
theorem mTy {f : Option δ} (h : (match A with | some (.ty "str", _) => f | _ => none) = some d) (k : ∀ t, A = some (.ty "str", t) → f = some d → G) : G := by
 split at h
 ·exact k _ rfl h
 ·exact optE h
theorem bR {A : Option Rho} {f : Rho → Option δ} (h : (match A with | some x => f x | none => none) = some d) (k : ∀ x, A = some x → f x = some d → G) : G := by
 cases A with
 | none => exact optE h
 | some x => exact k x rfl h
theorem bS {A : Option (List D × Bool × Bool)} {f : List D → Bool → Bool → Option δ} (h : (match A with | some (x, y, z) => f x y z | none => none) = some d) (k : ∀ x y z, A = some (x, y, z) → f x y z = some d → G) : G := by
 cases A with
 | none => exact optE h
 | some x => exact k x.1 x.2.1 x.2.2 rfl h
theorem bT {f g : Option δ} {A : Option Bool} (h : (match A with | some true => f | some false => g | none => none) = some d) (k1 : A = some true → f = some d → G) (k2 : A = some false → g = some d → G) : G := by
 rcases A with _ | _ | _
 ·exact optE h
 ·exact k2 rfl h
 ·exact k1 rfl h
theorem bL {A : Option (List V)} {f : List V → Option δ} (h : (match A with | some x => f x | none => none) = some d) (k : ∀ x, A = some x → f x = some d → G) : G := by
 cases A with
 | none => exact optE h
 | some x => exact k x rfl h
theorem bL' {A : Option (List V)} {f : List V → Option δ} (h : (match A with | some x => f x | _ => none) = some d) (k : ∀ x, A = some x → f x = some d → G) : G := by
 cases A with
 | none => exact optE h
 | some x => exact k x rfl h
theorem b2L {B : Option (List V)} {f : V → List V → Option δ} (h : (match A, B with | some x, some y => f x y | _, _ => none) = some d) (k : ∀ x y, A = some x → B = some y → f x y = some d → G) : G := by
 cases A with
 | none => exact optE h
 | some x => cases B with
  | none => exact optE h
  | some y => exact k x y rfl rfl h
theorem bFL {A : Option FE} {B : Option (List V)} {f : FE → List V → Option δ} (h : (match A, B with | some x, some y => f x y | _, _ => none) = some d) (k : ∀ x y, A = some x → B = some y → f x y = some d → G) : G := by
 cases A with
 | none => exact optE h
 | some x => cases B with
  | none => exact optE h
  | some y => exact k x y rfl rfl h
theorem bVOO {B C : Option (Option D)} {f : V → Option D → Option D → Option δ} (h : (match A, B, C with | some x, some y, some z => f x y z | _, _, _ => none) = some d) (k : ∀ x y z, A = some x → B = some y → C = some z → f x y z = some d → G) : G := by
 cases A with
 | none => exact optE h
 | some x => cases B with
  | none => exact optE h
  | some y => cases C with
   | none => exact optE h
   | some z => exact k x y z rfl rfl rfl h
theorem bP {C : Option (List (Str × V))} {f : Str → V → List (Str × V) → Option δ} (h : (match A, B, C with | some (.str x, _), some v, some r => f x v r | _, _, _ => none) = some d) (k : ∀ x t v r, A = some (.str x, t) → B = some v → C = some r → f x v r = some d → G) : G := by
 rcases A with _ | ⟨x, t⟩
 ·exact optE h
 have e : (match (generalizing := false) some (x, t), B, C with | some (.str x, _), some v, some r => f x v r | _, _, _ => none) = (strD x).bind (fun x => B.bind fun v => C.bind fun r => f x v r) := by
  clear h k; cases x <;> first | rfl | (cases B <;> cases C <;> rfl)
 exact bindE (e.symm.trans h) fun x h1 h => bindE h fun v h2 h => bindE h fun r h3 h => k x t v r (by rw [strD_eq h1]) h2 h3 h
end
section
variable {nm fn : Nat → Str} {FT : List FE} {n : Nat} {sc : Scope} {tp : Bool} {r : Rho} {m : V → Prop} {v : V}
@[elab_as_elim] theorem neg {e : X} {p : Pos} (h : ev nm fn FT (n + 1) sc (.neg e p) tp r = some v) (k : ∀ i t, ev nm fn FT n sc e tp r = some (.int i, t) → m (.int (-i), false)) : m v :=
 mInt h fun i t h1 h => someE h (k i t h1)
@[elab_as_elim] theorem bin {op : BOp} {a b : X} {p : Pos} (h : ev nm fn FT (n + 1) sc (.bin op a b p) tp r = some v) (k : ∀ x y d, ev nm fn FT n sc a tp r = some x → ev nm fn FT n sc b tp r = some y → binD op x.1 y.1 = some d → m (itV d (x.2 || y.2))) : m v :=
 b2 h fun x y h1 h2 h => mapE h fun d e => k x y d h1 h2 e
@[elab_as_elim] theorem cmp {op : COp} {a b : X} {p : Pos} (h : ev nm fn FT (n + 1) sc (.cmp op a b p) tp r = some v) (k : ∀ x y d, ev nm fn FT n sc a tp r = some x → ev nm fn FT n sc b tp r = some y → cmpD op x.1 y.1 = some d → m (.bool d, false)) : m v :=
 b2 h fun x y h1 h2 h => mapE h fun d e => k x y d h1 h2 e
theorem ite {G : Prop} {t a b : X} {p : Pos} (h : ev nm fn FT (n + 1) sc (.ite t a b p) tp r = some v) (k1 : evT nm fn FT n sc t tp r = some true → ev nm fn FT n sc a tp r = some v → G) (k2 : evT nm fn FT n sc t tp r = some false → ev nm fn FT n sc b tp r = some v → G) : G :=
 bT h k1 k2
@[elab_as_elim] theorem item {a b : X} {p : Pos} (h : ev nm fn FT (n + 1) sc (.item a b p) tp r = some v) (k : ∀ x y d, ev nm fn FT n sc a tp r = some x → ev nm fn FT n sc b tp r = some y → itemD x.1 y.1 = some d → m (itV d x.2)) : m v :=
 b2 h fun x y h1 h2 h => mapE h fun d e => k x y d h1 h2 e
@[elab_as_elim] theorem slice {a : X} {lo hi : OX} {ps p : Pos} (h : ev nm fn FT (n + 1) sc (.slice a lo hi ps p) tp r = some v)
  (k : ∀ x y z d, ev nm fn FT n sc a tp r = some x → evO nm fn FT n sc lo tp r = some y → evO nm fn FT n sc hi tp r = some z → sliceD x.1 y z = some d → m (itV d x.2)) : m v :=
 bVOO h fun x y z h1 h2 h3 h => mapE h fun d e => k x y z d h1 h2 h3 e
@[elab_as_elim] theorem rev {a : X} {k : Nat} {pc pn ps p : Pos} (h : ev nm fn FT (n + 1) sc (.rev a k pc pn ps p) tp r = some v) (k : ∀ ds t, ev nm fn FT n sc a tp r = some (.lst ds, t) → ds.length ≤ listLine → m (.lst ds.reverse, t)) : m v :=
 mLst h fun ds t h1 h => ifE h fun c h => someE h (k ds t h1 c)
@[elab_as_elim] theorem list {es : XS} {p : Pos} (h : ev nm fn FT (n + 1) sc (.list es p) tp r = some v) (k : ∀ vs, evs nm fn FT n sc es tp r = some vs → vs.length ≤ 1000 → m (.lst (vs.map (·.1)), !untaint vs)) : m v :=
 bL h fun vs h1 h => ifE h fun c h => someE h (k vs h1 c)
@[elab_as_elim] theorem tup {es : XS} {i : Nat} {p : Pos} (h : ev nm fn FT (n + 1) sc (.tup es i p) tp r = some v) (k : ∀ vs, evs nm fn FT n sc es tp r = some vs → vs.length ≤ 1000 → m (.tup (vs.map (·.1)), !untaint vs)) : m v :=
 bL h fun vs h1 h => ifE h fun c h => someE h (k vs h1 c)
theorem and3 {a b c : Bool} (h : (a && b && c) = true) : a = true ∧ b = true ∧ c = true := by
 rw [Bool.and_eq_true, Bool.and_eq_true] at h; exact ⟨h.1.1, h.1.2, h.2⟩
@[elab_as_elim] theorem call {f : Nat} {fp : Pos} {as : XS} {p : Pos} (h : ev nm fn FT (n + 1) sc (.call f fp as p) tp r = some v)
  (k : ∀ fe vs d, FT[f]? = some fe → evs nm fn FT n sc as tp r = some vs → isG sc (fn f) = true → (tp || fe.exact) = true → 0 < vs.length ∧ vs.length < 10 → fe.g (vs.map (·.1)) = some d → m (itV d (!untaint vs))) : m v :=
 bFL h fun fe vs h1 h2 h => ifE h fun c h => mapE h fun d h3 => k fe vs d h1 h2 (and3 c).1 (and3 c).2.1 (of_decide_eq_true (and3 c).2.2) h3
@[elab_as_elim] theorem bi {b : Bi} {fp : Pos} {as : XS} {p : Pos} (h : ev nm fn FT (n + 1) sc (.bi b fp as p) tp r = some v)
  (k : ∀ vs d, evs nm fn FT n sc as tp r = some vs → isG sc b.py = true → 0 < vs.length ∧ vs.length < 10 → biD b (vs.map (·.1)) = some d → m (d, false)) : m v :=
 bL' h fun vs h1 h => ifE h fun c h => mapE h fun d h3 => k vs d h1 (((Bool.and_eq_true _ _).mp c).1) (of_decide_eq_true ((Bool.and_eq_true _ _).mp c).2) h3
@[elab_as_elim] theorem meth {f : Me} {o : X} {ap : Pos} {as : XS} {p : Pos} (h : ev nm fn FT (n + 1) sc (.meth f o ap as p) tp r = some v)
  (k : ∀ x vs d, ev nm fn FT n sc o tp r = some x → evs nm fn FT n sc as tp r = some vs → (ap.endLine == p.line) = true → o.base = true → 0 < vs.length ∧ vs.length < 10 → meD f x.1 (vs.map (·.1)) = some d → m (itV d (x.2 || !untaint vs))) : m v :=
 b2L h fun x vs h1 h2 h => ifE h fun c h => mapE h fun d h3 => k x vs d h1 h2 (and3 c).1 (and3 c).2.1 (of_decide_eq_true (and3 c).2.2) h3
@[elab_as_elim] theorem isSB {e : X} {p1 p2 p3 : Pos} {i : Nat} {p4 p : Pos} (h : ev nm fn FT (n + 1) sc (.isSB e p1 p2 p3 i p4 p) tp r = some v)
  (k : ∀ t, ev nm fn FT n sc e tp r = some (.ty "str", t) → isG sc "issubclass" = true → isG sc "str" = true → isG sc "bytes" = true → m (.bool true, false)) : m v :=
 mTy h fun t h1 h => ifE h fun c h => someE h (k t h1 (and3 c).1 (and3 c).2.1 (and3 c).2.2)
@[elab_as_elim] theorem isB {e : X} {p1 p2 p : Pos} (h : ev nm fn FT (n + 1) sc (.isB e p1 p2 p) tp r = some v)
  (k : ∀ x t, ev nm fn FT n sc e tp r = some (.str x, t) → isG sc "isinstance" = true → isG sc "bytes" = true → m (.bool false, false)) : m v :=
 mStr h fun x t h1 h => ifE h fun c h => someE h (k x t h1 ((Bool.and_eq_true _ _).mp c).1 ((Bool.and_eq_true _ _).mp c).2)
theorem bD {A : Option (List (Str × V))} {f : List (Str × V) → Option V} (h : (match A with | some x => f x | _ => none) = some v) {G : Prop} (k : ∀ x, A = some x → f x = some v → G) : G := by
 cases A with
 | none => exact optE h
 | some x => exact k x rfl h
@[elab_as_elim] theorem dict {k0 : X} {ks es : XS} {p : Pos} (h : ev nm fn FT (n + 1) sc (.dict (.cons k0 ks) es p) tp r = some v)
  (k : ∀ kvs, evP nm fn FT n sc (.cons k0 ks) es tp r = some kvs → kvs.length ≤ 15 → 0 < kvs.length → (kvs.map (·.1)).Nodup → untaint (kvs.map (·.2)) = true → m (.dct (kvs.map (·.1)) (kvs.map (·.2.1)), false)) : m v :=
 bD h fun kvs h1 h => ifE h fun c h => someE h (k kvs h1 c.1 c.2.1 c.2.2.1 c.2.2.2)
@[elab_as_elim] theorem cons {ms : List V → Prop} {vs : List V} {e : X} {es : XS} (h : evs nm fn FT (n + 1) sc (.cons e es) tp r = some vs) (k : ∀ v vs, ev nm fn FT n sc e tp r = some v → evs nm fn FT n sc es tp r = some vs → ms (v :: vs)) : ms vs :=
 b2L h fun v vs h1 h2 h => someE h (k v vs h1 h2)
@[elab_as_elim] theorem pcons {ms : List (Str × V) → Prop} {vs : List (Str × V)} {k v : X} {ks es : XS} (h : evP nm fn FT (n + 1) sc (.cons k ks) (.cons v es) tp r = some vs)
  (c : ∀ x t v' r', ev nm fn FT n sc k tp r = some (.str x, t) → ev nm fn FT n sc v tp r = some v' → evP nm fn FT n sc ks es tp r = some r' → ms ((x, v') :: r')) : ms vs :=
 bP h fun x t v' r' h1 h2 h3 h => someE h (c x t v' r' h1 h2 h3)
@[elab_as_elim] theorem osome {mo : Option D → Prop} {o : Option D} {e : X} (h : evO nm fn FT (n + 1) sc (.some e) tp r = some o) (k : ∀ i t, ev nm fn FT n sc e tp r = some (.int i, t) → mo (some (.int i))) : mo o :=
 mInt h fun i t h1 h => someE h (k i t h1)
theorem tcmp {G : Prop} {c : Bool} {op : COp} {a b : X} {p : Pos} (h : evT nm fn FT (n + 1) sc (.cmp op a b p) tp r = some c) (k : ∀ x y, ev nm fn FT n sc a tp r = some x → ev nm fn FT n sc b tp r = some y → cmpD op x.1 y.1 = some c → G) : G :=
 b2 h k
theorem srcE {G : Prop} {A : Option V} {ds : List D} {t en : Bool} (h : srcOf A = some (ds, t, en)) (k : ∀ d t', A = some (d, t') → itemsD d = some ds → en = false → (d.atom = true ∨ t = t') → G) : G := by
 rcases A with _ | ⟨d, t'⟩
 ·exact optE h
 cases d with
 | lst ds' => exact ifE h fun c h => k _ _ rfl ((if_pos c).trans (congrArg (fun p => some p.1) (Option.some.inj h))) (congrArg (fun p => p.2.2) (Option.some.inj h)).symm (.inr (congrArg (fun p => p.2.1) (Option.some.inj h)).symm)
 | tup ds' => exact ifE h fun c h => k _ _ rfl ((if_pos c).trans (congrArg (fun p => some p.1) (Option.some.inj h))) (congrArg (fun p => p.2.2) (Option.some.inj h)).symm (.inr (congrArg (fun p => p.2.1) (Option.some.inj h)).symm)
 | str x => exact ifE h fun c h => k _ _ rfl ((if_pos c).trans (congrArg (fun p => some p.1) (Option.some.inj h))) (congrArg (fun p => p.2.2) (Option.some.inj h)).symm (.inl rfl)
 | _ => exact optE h
@[elab_as_elim] theorem itemsE {m : D → List D → Prop} {d : D} {ds : List D} (h : itemsD d = some ds) (k1 : ∀ ds : List D, ds.length ≤ listLine → m (.lst ds) ds) (k2 : ∀ ds : List D, ds.length ≤ listLine → m (.tup ds) ds)
  (k3 : ∀ x : Str, x.length ≤ strLine → m (.str x) (x.cps.toList.map fun c => .str ⟨#[c]⟩)) : m d ds := by
 cases d with
 | lst ds' => exact ifE h fun c h => someE h (k1 _ c)
 | tup ds' => exact ifE h fun c h => someE h (k2 _ c)
 | str x => exact ifE h fun c h => someE h (k3 _ c)
 | _ => exact optE h
@[elab_as_elim] theorem rangeE {g : Bool} {vs : List V} {m : List V → List D → Bool → Bool → Prop} {ds : List D} {t en : Bool} (h : rangeOf g vs = some (ds, t, en)) (k1 : ∀ a ta, g = true → a.natAbs < 1000 → m [(.int a, ta)] (rangeD 0 a) false false)
  (k2 : ∀ a ta b tb, g = true → a.natAbs < 1000 ∧ b.natAbs < 1000 → m [(.int a, ta), (.int b, tb)] (rangeD a b) false false) : m vs ds t en := by
 have e3 : ∀ {vs : List V} {x : List D}, (some (x, false, false) : Option (List D × Bool × Bool)) = some (ds, t, en) → m vs x false false → m vs ds t en := fun h k => by cases h; exact k
 cases vs with
 | nil => exact optE h
 | cons v vs =>
 cases v with | mk a ta =>
 cases a with
 | int a =>
  cases vs with
  | nil => exact ifE h fun c h => e3 h (k1 _ _ ((Bool.and_eq_true _ _).mp c).1 (of_decide_eq_true ((Bool.and_eq_true _ _).mp c).2))
  | cons v vs =>
  cases v with | mk b tb =>
  cases b with
  | int b =>
   cases vs with
   | nil => exact ifE h fun c h => e3 h (k2 _ _ _ _ ((Bool.and_eq_true _ _).mp c).1 (of_decide_eq_true ((Bool.and_eq_true _ _).mp c).2))
   | cons _ _ => exact optE h
  | _ => exact optE h
 | _ => exact optE h
@[elab_as_elim] theorem enumE {g : Bool} {vs : List V} {m : List V → List D → Bool → Bool → Prop} {ds : List D} {t en : Bool} (h : enumOf g vs = some (ds, t, en)) (k : ∀ ds t, g = true → m [(.lst ds, t)] (enumD 0 ds) t true) : m vs ds t en := by
 cases vs with
 | nil => exact optE h
 | cons v vs =>
 cases v with | mk a ta =>
 cases a with
 | lst a =>
  cases vs with
  | nil => exact ifE h fun c h => by cases h; exact k _ _ ((Bool.and_eq_true _ _).mp c).1
  | cons _ _ => exact optE h
 | _ => exact optE h
theorem g0 {G : Prop} {t : Tg} {src : X} {ifs : XS} {rest : GS} {x : List D × Bool × Bool} (h : evG0 nm fn FT n sc (.cons t src ifs rest) tp r = some x) (k : ∀ n', n = n' + 1 + 1 → evSrc nm fn FT (n' + 1) sc src tp r = some x → G) : G := by
 cases n with
 | zero => exact optE h
 | succ n => cases n with
  | zero => exact optE h
  | succ n => exact k n rfl h
@[elab_as_elim] theorem lcomp {e : X} {gs : GS} {sc' : Scope} {p : Pos} (h : ev nm fn FT (n + 1) sc (.lcomp e gs sc' p) tp r = some v)
  (k : compOk sc sc' = true → varsOk nm sc' gs = true → ∀ items tn en vs, evG0 nm fn FT n sc gs tp r = some (items, tn, en) → evG nm fn FT n (rel sc sc') gs items tn en (inner nm sc' r) (fun r' => match ev nm fn FT n (rel sc sc') e false r' with
    | some v => some [v]
    | none => none) = some vs → vs.length ≤ listLine → untaint vs = true → m (.lst (vs.map (·.1)), false)) : m v :=
 ifE h fun c h => bS h fun items tn en h1 h => bL h fun vs h2 h => ifE h fun c2 h => someE h (k ((Bool.and_eq_true _ _).mp c).1 ((Bool.and_eq_true _ _).mp c).2 items tn en vs h1 h2 c2.1 c2.2)
@[elab_as_elim] theorem dcomp {a b : X} {gs : GS} {sc' : Scope} {p : Pos} (h : ev nm fn FT (n + 1) sc (.dcomp a b gs sc' p) tp r = some v)
  (k : compOk sc sc' = true → varsOk nm sc' gs = true → gs.single = true → ∀ items tn en vs kvs, evG0 nm fn FT n sc gs tp r = some (items, tn, en) → evG nm fn FT n (rel sc sc') gs items tn en (inner nm sc' r) (fun r' => match ev nm fn FT n (rel sc sc') a false r', ev nm fn FT n (rel sc sc') b false r' with
     | some (.str x, _), some (d, false) => some [(.tup [.str x, d], false)]
     | _, _ => none) = some vs → vs.length ≤ listLine → kvsOf (vs.map (·.1)) = some kvs → m (.dct (putAll kvs).1 (putAll kvs).2, false)) : m v :=
 ifE h fun c h => bS h fun items tn en h1 h => bL h fun vs h2 h => ifE h fun c2 h => mapE h fun kvs h3 => k (and3 c).1 (and3 c).2.1 (and3 c).2.2 items tn en vs kvs h1 h2 c2 h3
theorem g1 {G : Prop} {t : Tg} {src : X} {ifs : XS} {items : List D} {tn en : Bool} {emit : Rho → Option (List V)} {vs : List V} (h : evG nm fn FT n sc (.cons t src ifs .nil) items tn en r emit = some vs)
  (k : ∀ n', n = n' + 1 → t.two? = en → collectM (fun d => match bindTg t (itV d tn) r with
   | some r' => match evIfs nm fn FT n' sc ifs r' with
    | some true => emit r'
    | some false => some []
    | none => none
   | none => none) items = some vs → G) : G := by
 cases n with
 | zero => exact optE h
 | succ n => exact ifE h fun c h => k n rfl (eq_of_beq c) h
end
end I
end
section
theorem strsOf_eq : ∀ {ds : List D} {xs : List Str}, strsOf ds = some xs → ds = xs.map .str
 | [], xs, h => someE h rfl
 | d :: r, xs, h => by
  cases d with
  | str x => exact mapE h fun ys h1 => by rw [strsOf_eq h1]; rfl
  | _ => exact optE h
theorem intsOf_eq : ∀ {ds : List D} {xs : List Int}, intsOf ds = some xs → ds = xs.map .int
 | [], xs, h => someE h rfl
 | d :: r, xs, h => by
  cases d with
  | int x => exact mapE h fun ys h1 => by rw [intsOf_eq h1]; rfl
  | _ => exact optE h
theorem le_line {n : Nat} (h : n ≤ strLine) : n ≤ sizeLine := by rw [sizeLine_eq]; unfold strLine at h; omega
theorem le_line2 {n m : Nat} (h : n + m ≤ listLine) : n + m ≤ sizeLine := by rw [sizeLine_eq]; unfold listLine at h; omega
theorem mulFits {a b : Int} (h : a.natAbs < 2 ^ 4096 ∧ b.natAbs < 2 ^ 4096) : IntMulOk a b := by
 have key : ∀ k : Int, k.natAbs < 2 ^ 4096 → Builtin.Int.intBits k ≤ 4096 := fun k hk => by
  unfold Builtin.Int.intBits
  split
  ·exact Nat.zero_le _
  ·rename_i h0
   have h0' : k.natAbs ≠ 0 := fun q => h0 (by rw [Int.natAbs_eq_zero.mp q]; rfl)
   have := (Nat.log2_lt h0').mpr hk
   omega
 have h1 := key a h.1
 have h2 := key b h.2
 unfold IntMulOk
 have : Builtin.Int.intTooBig (Builtin.Int.intBits a + Builtin.Int.intBits b) = false := by
  unfold Builtin.Int.intTooBig
  refine decide_eq_false ?_
  have : (8192 : Int) ≤ bitsLine := by decide
  omega
 rw [this]; simp
abbrev BP (prog : Program) (w : World) (W : Addr → Prop) (h : Heap) (d : D) : Value → Heap → Prop := fun v h' => (∀ b o, h.get? b = some o → h'.get? b = some o) ∧ R prog w h' W v d
section
variable {prog : Program} {w : World} {A : Around} {s : Shared} {W : Addr → Prop}
theorem ok_int {t : Sem Value} {i : Int} (x : ∀ Q E, Q (.int i s.toks) { s with toks := s.toks + 1 } → wpAny (model prog w) A t Q E s) : Ok (model prog w) A t s (BP prog w W s.heap (.int i)) :=
 x _ _ ⟨s.heap, _, rfl, fun _ _ e => e, .int _ _⟩
theorem ok_bool {t : Sem Value} {b : Bool} (x : ∀ Q E, Q (.bool b) s → wpAny (model prog w) A t Q E s) : Ok (model prog w) A t s (BP prog w W s.heap (.bool b)) :=
 x _ _ ⟨s.heap, _, rfl, fun _ _ e => e, .bool _⟩
theorem ok_str {t : Sem Value} {y : Str} (x : ∀ Q E, (∀ t' tk, Q (.str y t') { s with toks := tk }) → wpAny (model prog w) A t Q E s) : Ok (model prog w) A t s (BP prog w W s.heap (.str y)) :=
 x _ _ fun _ _ => ⟨s.heap, _, rfl, fun _ _ e => e, .str _ _⟩
theorem ok_push {t : Sem Value} {c : String} {vs : List Value} {d : D} (x : ∀ Q E, Q (.ref s.heap.objs.size) { s with heap := s.heap.push (sq c vs 0) } → wpAny (model prog w) A t Q E s)
  (h : R prog w (s.heap.push (sq c vs 0)) W (.ref s.heap.objs.size) d) : Ok (model prog w) A t s (BP prog w W s.heap d) :=
 x _ _ ⟨_, _, rfl, fun _ _ e => Heap.get?_push_of_some _ e, h⟩
theorem push_none (h : Heap) : h.get? h.objs.size = none := Heap.get?_none_of_le (Nat.le_refl _)
theorem R_push_lst {h : Heap} {vs : List Value} {ds : List D} (hW : ¬ W h.objs.size) (r : RL prog w h W vs ds) : R prog w (h.push (sq "list" vs 0)) W (.ref h.objs.size) (.lst ds) :=
 .lst hW (Heap.get?_push_size _ rfl) (r.mono (fun _ _ _ e => Heap.get?_push_of_some _ e) fun _ q => .inl q)
theorem R_push_tup {h : Heap} {vs : List Value} {ds : List D} (hW : ¬ W h.objs.size) (r : RL prog w h W vs ds) : R prog w (h.push (sq "tuple" vs 0)) W (.ref h.objs.size) (.tup ds) :=
 .tup hW (Heap.get?_push_size _ rfl) (r.mono (fun _ _ _ e => Heap.get?_push_of_some _ e) fun _ q => .inl q)
theorem log_small {k : Nat} (hk : k < 2 ^ 62) : k.log2 < 9000 := by
 rcases Nat.eq_zero_or_pos k with q | q
 ·rw [q]; decide
 ·exact Nat.lt_of_lt_of_le ((Nat.log2_lt (by omega)).mpr hk) (by omega)
theorem bin_ok {op : BOp} {a b d : D} {u v : Value} {Wa Wb : Addr → Prop} (e : binD op a b = some d) (ru : R prog w s.heap Wa u a) (rv : R prog w s.heap Wb v b)
  (hn : ¬ W s.heap.objs.size) (hl : ∀ xs ys, a = .lst xs → b = .lst ys → (∀ vs, RL prog w s.heap Wa vs xs → RL prog w s.heap W vs xs) ∧ (∀ vs, RL prog w s.heap Wb vs ys → RL prog w s.heap W vs ys)) :
  Ok (model prog w) A (binaryOp op.py u v) s (BP prog w W s.heap d) := by
 revert ru rv hl
 refine binE e (fun a b ru rv _ => ?_) (fun a b c ru rv _ => ?_) (fun a b c ru rv hl => ?_) (fun a b ru rv _ => ?_) (fun a b c ru rv _ => ?_) (fun a n c ru rv _ => ?_) (fun a b c ru rv _ => ?_) (fun a b c ru rv _ => ?_) (fun a b c ru rv _ => ?_) (fun a b ru rv _ => ?_)
 ·exact R.intE ru fun t => R.intE rv fun t' => ok_int fun Q E h => PyProof.Rows.add_int h
 ·exact R.strE ru fun t => R.strE rv fun t' => ok_str fun Q E h => PyProof.Rows.add_str h (le_line c)
 ·obtain ⟨h1, h2⟩ := hl _ _ rfl rfl
  refine R.lstE ru fun a vs n _ hu ra => R.lstE rv fun a vs n _ hv rb => ?_
  exact ok_push (c := "list") (fun Q E h => P.add_list hu hv (by simpa using h) (by rw [List.size_toArray, List.size_toArray, ra.length, rb.length]; exact le_line2 c)) (R_push_lst hn ((h1 _ ra).append (h2 _ rb)))
 ·exact R.intE ru fun t => R.intE rv fun t' => ok_int fun Q E h => PyProof.Rows.sub_int h
 ·exact R.intE ru fun t => R.intE rv fun t' => ok_int fun Q E h => PyProof.Rows.mul_int h (mulFits c)
 ·exact R.strE ru fun t => R.intE rv fun t' => ok_str fun Q E h => SB.mul (mulOk_of 16 100000 c.1 c.2.2 (by omega) (by decide) (by decide)) fun t' k => h t' k
 ·exact R.intE ru fun t => R.intE rv fun t' => ok_int fun Q E h => PyProof.Rows.floordiv_int c.1 h (Or.inl (PyProof.noPylong_of_log2 (log_small c.2.2)))
 ·exact R.intE ru fun t => R.intE rv fun t' => ok_int fun Q E h => PyProof.Rows.mod_int c h
 ·exact R.intE ru fun t => R.intE rv fun t' => ok_int fun Q E h => PyProof.Rows.rshift_int c h
 ·exact R.intE ru fun t => R.intE rv fun t' => ok_int fun Q E h => PyProof.Rows.and_int h
end
end
section
section
variable {prog : Program} {w : World} {A : Around} {s : Shared} {E : Value → Shared → Prop}
theorem lookD_valueAt {h : Heap} {W : Addr → Prop} {x : Str} {d : D} : ∀ {kvs : List (Str × Value)} {ds : List D}, RL prog w h W (kvs.map (·.2)) ds → lookD (kvs.map (·.1)) ds x = some d → ∃ v, valueAt kvs x = some v ∧ R prog w h W v d
 | [], ds, r, e => by cases ds <;> exact optE e
 | (k, v) :: kvs, [], r, e => nomatch r
 | (k, v) :: kvs, d' :: ds, .cons r1 r2, e => by
  replace e : (if k = x then some d' else lookD (kvs.map (·.1)) ds x) = some d := e
  unfold valueAt
  rw [List.find?_cons]
  by_cases q : k = x
  ·rw [if_pos q] at e
   exact someE e ⟨v, by rw [decide_eq_true q]; rfl, r1⟩
  ·rw [if_neg q] at e
   rw [decide_eq_false q]; exact lookD_valueAt r2 e
end
end
section
section
variable {prog : Program} {w : World} {A : Around} {s : Shared} {W : Addr → Prop}
theorem pairOf_eq {d : D} {p : Int × Int} (e : pairOf d = some p) : d = .tup [.int p.1, .int p.2] := by
 cases d with
 | tup ts =>
  cases ts with
  | nil => exact optE e
  | cons a r =>
  cases a with
  | int i =>
   cases r with
   | nil => exact optE e
   | cons a r =>
   cases a with
   | int j =>
    cases r with
    | nil => exact someE e rfl
    | cons _ _ => exact optE e
   | _ => exact optE e
  | _ => exact optE e
 | _ => exact optE e
theorem pairsOf_eq : ∀ {ds : List D} {ps : List (Int × Int)}, pairsOf' ds = some ps → ds = ps.map fun p => .tup [.int p.1, .int p.2]
 | [], ps, e => by simp [pairsOf'] at e; subst e; rfl
 | d :: r, ps, e => by
  unfold pairsOf' at e
  cases h1 : pairOf d with
  | none => rw [h1] at e; cases e
  | some p =>
  cases h2 : pairsOf' r with
  | none => rw [h1, h2] at e; cases e
  | some qs => rw [h1, h2] at e; cases e; rw [pairsOf_eq h2, pairOf_eq h1]; rfl
theorem reads_pair {h : Heap} {Wa : Addr → Prop} {u : Value} {a b : Int} (r : R prog w h Wa u (.tup [.int a, .int b])) : ∃ bs, Reads h u (.tuple [.int a, .int b]) bs := by
 refine R.tupE r fun _ _ _ _ hl r => ?_
 revert hl
 refine RL.twoE r fun u v r1 r2 => R.intE r1 fun t => R.intE r2 fun t' => fun hl => ?_
 exact ⟨_, .tuple hl rfl rfl (.cons (.int _ _) (.cons (.int _ _) .nil))⟩
theorem reads_pairs {h : Heap} {Wa : Addr → Prop} : ∀ {ps : List (Int × Int)} {us : List Value}, RL prog w h Wa us (ps.map fun p => .tup [.int p.1, .int p.2]) → ∃ bs, ReadsAll h us (ps.map fun p => .tuple [.int p.1, .int p.2]) bs
 | [], us, r => by cases r; exact ⟨_, .nil⟩
 | p :: ps, us, r => by
  cases r with
  | cons r1 r2 =>
   obtain ⟨b1, q1⟩ := reads_pair r1
   obtain ⟨b2, q2⟩ := reads_pairs r2
   exact ⟨_, .cons q1 q2⟩
theorem pairs_lay : ∀ ps : List (Int × Int), PyData.canLayAll0 (ps.map fun p => .tuple [.int p.1, .int p.2]) = true
 | [] => rfl
 | p :: ps => by simp [PyData.canLayAll0, PyData.canLay0, pairs_lay ps]
theorem pairs_depth : ∀ ps : List (Int × Int), PyData.depthAll (ps.map fun p => .tuple [.int p.1, .int p.2]) ≤ 1
 | [] => Nat.zero_le _
 | p :: ps => by have := pairs_depth ps; simp [PyData.depthAll, PyData.depth]; omega
theorem pair_eqv (p : Int × Int) (a b : Int) : PyData.eqv (.tuple [.int p.1, .int p.2]) (.tuple [.int a, .int b]) = (p == (a, b)) := by
 obtain ⟨x, y⟩ := p
 show ((x == a) && ((y == b) && true)) = _
 rw [Bool.and_true]; rfl
theorem lookD_isSome : ∀ (kvs : List (Str × Value)) (ks : List Str), ks = kvs.map (·.1) → ∀ x, (ks.contains x) = (valueAt kvs x).isSome := by
 intro kvs ks e x; subst e
 unfold valueAt
 induction kvs with
 | nil => rfl
 | cons p r ih =>
  simp only [List.map_cons, List.contains_cons, List.find?_cons]
  by_cases q : p.1 = x
  ·subst q; simp
  ·have q1 : (x == p.1) = false := beq_eq_false_iff_ne.mpr (Ne.symm q)
   rw [q1, Bool.false_or, ih]
   simp only [q, decide_false]
theorem in_ok {a b : D} {r : Bool} {u v : Value} {Wa Wb : Addr → Prop} (e : inD a b = some r) (ru : R prog w s.heap Wa u a) (rv : R prog w s.heap Wb v b) (hu : A.units + 8 < cLine) :
  Ok (model prog w) A (compareOp .In u v) s (BP prog w W s.heap (.bool r)) ∧ Ok (model prog w) A (compareOp .NotIn u v) s (BP prog w W s.heap (.bool !r)) := by
 revert ru rv
 refine inE e (fun x y ru rv => ?_) (fun x ds ys h1 ru rv => ?_) (fun x ds ys h1 ru rv => ?_) (fun x ks ds ru rv => ?_) (fun ts ds p ps h0 h1 ru rv => ?_)
 ·exact R.strE ru fun t => R.strE rv fun t' => ⟨ok_bool fun Q E h => P.in_str h, ok_bool fun Q E h => P.notIn_str h⟩
 ·rw [strsOf_eq h1] at rv
  exact R.strE ru fun t => R.lstE rv fun a vs n _ hv rb => ⟨ok_bool fun Q E h => in_list_strs (isList_of_sq hv) rb.strs h, ok_bool fun Q E h => notin_list_strs (isList_of_sq hv) rb.strs h⟩
 ·rw [intsOf_eq h1] at rv
  exact R.intE ru fun t => R.lstE rv fun a vs n _ hv rb => ⟨ok_bool fun Q E h => in_list_ints (isList_of_sq hv) rb.ints h, ok_bool fun Q E h => notin_list_ints (isList_of_sq hv) rb.ints h⟩
 ·refine R.strE ru fun t => R.dctE rv fun a kvs _ lo hd he rb => ?_
  rw [lookD_isSome kvs _ he]
  exact ⟨wpAny_in_of (knd := strKind prog w) (strKind_is prog w _ _) lo hd.mapOf ⟨s.heap, _, rfl, fun _ _ e => e, .bool _⟩,
   wpAny_notIn_of (knd := strKind prog w) (strKind_is prog w _ _) lo hd.mapOf ⟨s.heap, _, rfl, fun _ _ e => e, .bool _⟩⟩
 ·rw [pairOf_eq h0] at ru
  rw [pairsOf_eq h1] at rv
  obtain ⟨b1, q1⟩ := reads_pair ru
  refine R.lstE rv fun a vs n _ hv rb => ?_
  obtain ⟨b2, q2⟩ := reads_pairs rb
  have hd : A.units + 1 + min (PyData.depthAll (ps.map fun p => .tuple [.int p.1, .int p.2])) (PyData.depth (.tuple [.int p.1, .int p.2])) < cLine := by
   have := pairs_depth ps; omega
  have he : (ps.map fun p => PyData.tuple [.int p.1, .int p.2]).any (fun z => PyData.eqv z (.tuple [.int p.1, .int p.2])) = ps.any fun q => q == p := by
   rw [List.any_map]; congr 1; funext q; exact pair_eqv q p.1 p.2
  exact ⟨ok_bool fun Q E h => SeqAt.in_list_reads (.list hv rfl rfl q2) q1 (pairs_lay ps) rfl hd (by rw [he]; exact h),
   ok_bool fun Q E h => SeqAt.notIn_list_reads (.list hv rfl rfl q2) q1 (pairs_lay ps) rfl hd (by rw [he]; exact h)⟩
theorem list_empty {h : Heap} {W : Addr → Prop} {v : Value} (r : R prog w h W v (.lst [])) : ∃ b n, v = .ref b ∧ h.get? b = some (sq "list" [] n) := by
 refine R.lstE r fun a vs n hw hv rb => ?_
 revert hv
 exact RL.nilE rb fun hv => ⟨_, _, rfl, hv⟩
theorem range_all_strs : ∀ (xs ys : List Str), xs.length = ys.length → (List.range xs.length).all (fun j => xs[j]? == ys[j]?) = decide (xs = ys) := by
 intro xs ys hl
 rw [Bool.eq_iff_iff, List.all_eq_true, decide_eq_true_iff]
 constructor
 ·intro h
  apply List.ext_getElem? ; intro i
  by_cases hi : i < xs.length
  ·exact eq_of_beq (h i (List.mem_range.mpr hi))
  ·rw [List.getElem?_eq_none (Nat.le_of_not_lt hi), List.getElem?_eq_none (by omega)]
 ·intro h j _; rw [h]; exact beq_self_eq_true _
theorem all_strs {vs us : List Value} {xs ys : List Str} (hv : StrsAre vs xs) (hu : StrsAre us ys) (hl : xs.length = ys.length) :
  ∃ e : Nat → Bool, (∀ (A : Around) (s : Shared) j (h1 : j < vs.toArray.size) (h2 : j < us.toArray.size), SeqAt.EqAt A s vs.toArray[j] us.toArray[j] (e j)) ∧ (List.range vs.toArray.size).all e = decide (xs = ys) := by
 refine ⟨fun j => xs[j]? == ys[j]?, fun A s j h1 h2 => ?_, ?_⟩
 ·have h1' : j < vs.length := by simpa using h1
  have h2' : j < us.length := by simpa using h2
  obtain ⟨x, t, e1, g1⟩ := hv.item j _ (List.getElem?_eq_getElem h1')
  obtain ⟨y, t', e2, g2⟩ := hu.item j _ (List.getElem?_eq_getElem h2')
  have q1 : vs.toArray[j] = .str x t := by simpa using e1
  have q2 : us.toArray[j] = .str y t' := by simpa using e2
  rw [q1, q2]
  show SeqAt.EqAt A s _ _ (xs[j]? == ys[j]?)
  rw [g1, g2]
  exact SeqAt.EqAt.str_str _ _ _ _
 ·have : vs.toArray.size = xs.length := by simpa using hv.length
  rw [this]; exact range_all_strs xs ys hl
theorem ne_strs {A : Around} {s : Shared} {a b : Addr} {vs us : List Value} {n n' : Nat} {xs ys : List Str} {Q : Value → Shared → Prop} {E : Value → Shared → Prop} (hv : s.heap.get? a = some (sq "list" vs n)) (hv' : s.heap.get? b = some (sq "list" us n'))
  (ra : StrsAre vs xs) (rb : StrsAre us ys) (hu : A.units + 8 < cLine) (hx : xs.length ≤ 1000) (h : Q (.bool !decide (xs = ys)) s) : wpAny (model prog w) A (compareOp .NotEq (.ref a) (.ref b)) Q E s := by
 have l1 := ra.length
 have l2 := rb.length
 by_cases hl : xs.length = ys.length
 ·obtain ⟨e, he, hq⟩ := all_strs ra rb hl
  rw [← hq] at h
  exact SeqAt.RcNeAt.lists (isList_of_sq hv) (isList_of_sq hv') (by rw [List.size_toArray, List.size_toArray, l1, l2, hl]) (by omega) (fun j h1 h2 => he _ _ j h1 h2) _ _ _ _ h
 ·rw [decide_eq_false fun q => hl (by rw [q])] at h
  exact SeqAt.RcNeAt.lists_lengths (isList_of_sq hv) (isList_of_sq hv') (by rw [List.size_toArray, List.size_toArray, l1, l2]; exact bne_iff_ne.mpr hl) (by omega) _ _ _ _ h
theorem eqStrs_eq {a b : List D} {q : Bool} (e : eqStrs a b = some q) : ∃ xs ys : List Str, a = xs.map .str ∧ b = ys.map .str ∧ xs.length ≤ 1000 ∧ q = decide (xs = ys) := by
 unfold eqStrs at e
 cases hx : strsOf a with
 | none => rw [hx] at e; cases e
 | some xs =>
 cases hy : strsOf b with
 | none => rw [hx, hy] at e; cases e
 | some ys =>
 rw [hx, hy] at e
 exact ifE e fun c e => someE e ⟨xs, ys, strsOf_eq hx, strsOf_eq hy, c, rfl⟩
theorem cmp_ok {op : COp} {a b : D} {r : Bool} {u v : Value} {Wa Wb : Addr → Prop} (e : cmpD op a b = some r) (ru : R prog w s.heap Wa u a) (rv : R prog w s.heap Wb v b) (hu : A.units + 8 < cLine) :
  Ok (model prog w) A (compareOp op.py u v) s (BP prog w W s.heap (.bool r)) := by
 revert ru rv
 refine cmpE e (fun a b ru rv => ?_) (fun a b ru rv => ?_) (fun a b ru rv => ?_) (fun a b ru rv => ?_) (fun a ru rv => ?_)
  (fun a b q h1 ru rv => ?_) (fun a b r e ru rv => (in_ok e ru rv hu).1) (fun a b r e ru rv => (in_ok e ru rv hu).2)
 ·exact R.intE ru fun t => R.intE rv fun t' => ok_bool fun Q E h => PyProof.Rows.eq_int h
 ·exact R.intE ru fun t => R.intE rv fun t' => ok_bool fun Q E h => PyProof.Rows.ne_int h
 ·exact R.intE ru fun t => R.intE rv fun t' => ok_bool fun Q E h => PyProof.Rows.lt_int h
 ·exact R.strE ru fun t => R.strE rv fun t' => ok_bool fun Q E h => PyProof.Rows.ne_str h
 ·obtain ⟨b, n, rfl, hb⟩ := list_empty rv
  refine R.lstE ru fun a vs n _ hv ra => ?_
  cases ra with
  | nil => exact ok_bool fun Q E h => SeqAt.eq_listAt (isList_of_sq hv) (isList_of_sq hb) rfl (by omega) (e := fun _ => true) (fun j h1 => absurd h1 (Nat.not_lt_zero _)) h
  | cons _ _ => exact ok_bool fun Q E h => SeqAt.eq_list_lengthsAt (isList_of_sq hv) (isList_of_sq hb) rfl (by omega) h
 ·obtain ⟨xs, ys, rfl, rfl, hx, rfl⟩ := eqStrs_eq h1
  exact R.lstE ru fun a vs n _ hv ra => R.lstE rv fun b us n' _ hv' rb => ok_bool fun Q E h => ne_strs hv hv' ra.strs rb.strs hu hx h
end
end
section
section
variable {prog : Program} {w : World} {A : Around} {s : Shared}
theorem idx_le {i : Int} {n k : Nat} (e : idxOf i n = some k) : k < n ∧ ((0 ≤ i ∧ k = i.toNat) ∨ (i < 0 ∧ -(n : Int) ≤ i ∧ k = (i + n).toNat)) := by
 unfold idxOf at e
 by_cases h : 0 ≤ i
 ·rw [if_pos h] at e
  exact ifE e fun c e => someE e ⟨by omega, .inl ⟨h, rfl⟩⟩
 ·rw [if_neg h] at e
  exact ifE e fun c e => someE e ⟨by omega, .inr ⟨Int.not_le.mp h, by omega, rfl⟩⟩
theorem seqIdx {i : Int} {n k : Nat} (e : idxOf i n = some k) : seqIndex? i n = some k := by
 obtain ⟨h1, h2⟩ := idx_le e
 unfold seqIndex?
 rcases h2 with ⟨h, rfl⟩ | ⟨h, h', rfl⟩
 ·have e1 : ¬ i < 0 := by omega
  simp only [e1, if_false]
  first
  | (rw [if_pos (by omega)]; done)
  | (rw [if_neg (by omega)]; done)
  | (simp; omega)
 ·simp only [h, if_true]
  first
  | (rw [if_pos (by omega)]; done)
  | (rw [if_neg (by omega)]; done)
  | (simp; omega)
theorem lookD_none {h : Heap} {W : Addr → Prop} {x : Str} : ∀ {kvs : List (Str × Value)} {ds : List D}, RL prog w h W (kvs.map (·.2)) ds → lookD (kvs.map (·.1)) ds x = none → valueAt kvs x = none
 | [], ds, r, e => rfl
 | (k, v) :: kvs, [], r, e => nomatch r
 | (k, v) :: kvs, d' :: ds, .cons r1 r2, e => by
  replace e : (if k = x then some d' else lookD (kvs.map (·.1)) ds x) = none := e
  unfold valueAt
  rw [List.find?_cons]
  by_cases q : k = x
  ·rw [if_pos q] at e; cases e
  ·rw [if_neg q] at e
   rw [decide_eq_false q]; exact lookD_none r2 e
theorem getItem_ok {a b d : D} {u v : Value} {Wa Wb : Addr → Prop} (e : itemD a b = some d) (ru : R prog w s.heap Wa u a) (rv : R prog w s.heap Wb v b) :
  ∃ (T id : String), s.TypeIs u T ∧ typeLookup (.type T) "__getitem__" = pure (some (.builtin id)) ∧ Ok (model prog w) A (getItem u v) s (BP prog w Wa s.heap d) := by
 revert ru rv
 refine itemE e (fun ds i k hk hsz e ru rv => ?_) (fun ds i k hk hsz e ru rv => ?_) (fun ks ds x e ru rv => ?_)
 ·have hz : ds.length ≤ 100000 := hsz
  refine R.intE rv fun t => R.lstE ru fun a vs n _ hv rb => ?_
  obtain ⟨x, hx, rx⟩ := rb.get e
  have hl := rb.length
  have hl' : vs.toArray.size = ds.length := (List.size_toArray).trans hl
  have hx' : ∀ k, vs[k]? = some x → vs.toArray[k]? = some x := fun k h => (List.getElem?_toArray ..).trans h
  refine ⟨"list", _, (isList_of_sq hv).typeIs, slot_list_getitem.lookup, ?_⟩
  rcases idx_le hk with ⟨h1, ⟨h0, rfl⟩ | ⟨h0, h3, rfl⟩⟩
  ·exact wpAny_getItem_list (isList_of_sq hv) h0 (by omega) (hx' _ hx) ⟨s.heap, _, rfl, fun _ _ e => e, rx⟩
  ·exact wpAny_getItem_list_neg (isList_of_sq hv) h0 (by omega) (by omega) (by rw [hl']; exact hx' _ hx) ⟨s.heap, _, rfl, fun _ _ e => e, rx⟩
 ·have hz : ds.length ≤ 100000 := hsz
  refine R.intE rv fun t => R.tupE ru fun a vs n _ hv rb => ?_
  obtain ⟨x, hx, rx⟩ := rb.get e
  have hl := rb.length
  refine ⟨"tuple", _, (isTup_of_sq hv).typeIs, slot_tuple_getitem.lookup, ?_⟩
  have hb := idx_le hk
  exact PyProof.Rows.getItem_tuple (isTup_of_sq hv) (by omega) (by omega) (by rw [List.size_toArray, hl]; exact seqIdx hk) (by simpa using hx) ⟨s.heap, _, rfl, fun _ _ e => e, rx⟩
 ·refine R.strE rv fun t => R.dctE ru fun a kvs _ lo hd he rb => ?_
  rw [he] at e
  obtain ⟨x, hx, rx⟩ := lookD_valueAt rb e
  exact ⟨"dict", _, hd.mapOf.typeIs, slot_dict_getitem.lookup, wpAny_getItem_of (strKind_is prog w _ _) hd.mapOf hx ⟨s.heap, _, rfl, fun _ _ e => e, rx⟩⟩
inductive PartR : Value → Option D → Prop
 | none : PartR .none none
 | int (i : Int) (t : Tok) : PartR (.int i t) (some (.int i))
theorem PartR.of {h : Heap} {W : Addr → Prop} {u : Value} {i : Int} (r : R prog w h W u (.int i)) : PartR u (some (.int i)) := R.intE r fun t => .int _ _
theorem part_raw {v : Value} {o : Option D} (r : PartR v o) {p : Option Int} (e : partO o = some p) : IsPart v p ∧ ∃ q : Option (Int × Tok), v = partValue q ∧ q.map (·.1) = p := by
 cases r with
 | none => cases e; exact ⟨.none, none, rfl, rfl⟩
 | int i t => cases e; exact ⟨.int _ _, some (i, t), rfl, rfl⟩
theorem cut_lo {n k : Nat} {o : Option D} {v : Value} (r : PartR v o) (e : cutAt n o 0 = some k) : ∃ p, IsPart v p ∧ kms_lo p n = k := by
 cases r with
 | none => cases e; exact ⟨_, .none, rfl⟩
 | int i t =>
  replace e : (if 0 ≤ i then some (min i.toNat n) else none) = some k := e
  refine ifE e fun c e => someE e ⟨_, .int _ _, ?_⟩
  show (if i < 0 then _ else _) = _
  rw [if_neg (Int.not_lt.mpr c)]
theorem cut_hi {n k : Nat} {o : Option D} {v : Value} (r : PartR v o) (e : cutAt n o n = some k) : ∃ p, IsPart v p ∧ kms_hi p n = k := by
 cases r with
 | none => cases e; exact ⟨_, .none, rfl⟩
 | int i t =>
  replace e : (if 0 ≤ i then some (min i.toNat n) else none) = some k := e
  refine ifE e fun c e => someE e ⟨_, .int _ _, ?_⟩
  show (if i < 0 then _ else _) = _
  rw [if_neg (Int.not_lt.mpr c)]
abbrev slObj (l u st : Value) : Obj := { cls := .type "slice", data := .fields #[l, u, st] }
theorem getItem_slice_ok {a d : D} {lo hi : Option D} {u vl vu : Value} {Wa : Addr → Prop} (e : sliceD a lo hi = some d) (ru : R prog w s.heap Wa u a) (pl : PartR vl lo) (pu : PartR vu hi) (hn : ∀ h : Heap, s.heap.objs.size ≤ h.objs.size → ¬ Wa h.objs.size) :
  ∃ (T id : String), (∀ s' : Shared, s'.heap = s.heap.push (slObj vl vu .none) → s'.TypeIs u T) ∧ typeLookup (.type T) "__getitem__" = pure (some (.builtin id)) ∧
   Ok (model prog w) A (getItem u (.ref s.heap.objs.size)) { s with heap := s.heap.push (slObj vl vu .none) } (BP prog w Wa s.heap d) := by
 revert ru
 refine sliceE e (fun ds i j h1 h2 hsz ru => ?_) (fun x i j h1 h2 hsz ru => ?_)
 ·obtain ⟨p, hp, e1⟩ := cut_lo pl h1
  obtain ⟨q, hq, e2⟩ := cut_hi pu h2
  refine R.lstE ru fun a vs n _ hv rb => ?_
  have hl := rb.length
  have hL := (isList_of_sq hv).push (slObj vl vu .none)
  refine ⟨"list", _, fun s' hs => (hs ▸ hL : s'.heap.IsList a vs.toArray).typeIs, list_getitem_lookup, ?_⟩
  refine wpAny_getItem_list_slice hL (Heap.IsSliceOf.new ..) hp hq .none (by decide) ?_ (by rw [List.size_toArray, hl, sizeLine_eq]; exact Nat.le_trans hsz (by decide))
  have hz : kms_pick vs.toArray.toList p q = (vs.take j).drop i := by
   show kms_pick vs p q = _
   unfold kms_pick; rw [hl, e1, e2, List.drop_take]
  rw [kms_pick_eq, hz]
  exact ⟨_, _, rfl, fun b o e => Heap.get?_push_of_some _ (Heap.get?_push_of_some _ e), R_push_lst (hn _ (by rw [Heap.size_push]; exact Nat.le_succ _)) (RL.mono (fun _ _ _ e => Heap.get?_push_of_some _ e) (fun _ q => .inl q) ((rb.take j).drop i))⟩
 ·obtain ⟨_, q1, rfl, rfl⟩ := part_raw pl h1
  obtain ⟨_, q2, rfl, rfl⟩ := part_raw pu h2
  refine R.strE ru fun t => ⟨"str", _, fun s' _ => typeIs_str _ _ _, F.slot_str_getitem.lookup, ?_⟩
  exact wpAny_getItem_str_slice (l := q1) (u := q2) (st := none) ⟨_, Heap.get?_push_size _ rfl, rfl, rfl⟩ rfl (post_val_or_str ⟨Nat.le_trans (Txt.slice_le x _ _) (le_line hsz), fun t' k => ⟨_, _, rfl, fun b o e => Heap.get?_push_of_some _ e, .str _ _⟩⟩)
theorem getItem_rev_ok {ds : List D} {u st : Value} {Wa : Addr → Prop} (hsz : ds.length ≤ listLine) (ru : R prog w s.heap Wa u (.lst ds)) (ps : IsPart st (some (-1))) (hn : ∀ h : Heap, s.heap.objs.size ≤ h.objs.size → ¬ Wa h.objs.size) :
  ∃ (T id : String), (∀ s' : Shared, s'.heap = s.heap.push (slObj .none .none st) → s'.TypeIs u T) ∧ typeLookup (.type T) "__getitem__" = pure (some (.builtin id)) ∧
   Ok (model prog w) A (getItem u (.ref s.heap.objs.size)) { s with heap := s.heap.push (slObj .none .none st) } (BP prog w Wa s.heap (.lst ds.reverse)) := by
 refine R.lstE ru fun a vs n hw hv rb => ?_
 have hl := rb.length
 refine ⟨"list", _, fun s' hs => ?_, list_getitem_lookup, ?_⟩
 ·have := (isList_of_sq hv).push (slObj .none .none st); rw [← hs] at this; exact this.typeIs
 refine wpAny_getItem_list_slice ((isList_of_sq hv).push _) (Heap.IsSliceOf.new ..) .none .none ps (by simp) ?_ (by simp only [List.size_toArray, hl]; rw [sizeLine_eq]; unfold listLine at hsz; omega)
 rw [krv_pick]
 refine ⟨_, _, rfl, fun b o e => Heap.get?_push_of_some _ (Heap.get?_push_of_some _ e), ?_⟩
 exact R_push_lst (hn _ (by rw [Heap.size_push]; omega)) (RL.mono (fun _ _ _ e => Heap.get?_push_of_some _ e) (fun _ q => .inl q) rb.reverse)
end
end
section
noncomputable def leS (a b : Str) : Prop := ltS b a = false
theorem leS_cps {a b : Str} : leS a b ↔ a.cps.toList ≤ b.cps.toList := by
 unfold leS ltS
 rw [decide_eq_false_iff_not]
 exact List.not_lt
theorem leS_antisymm {a b : Str} (h : leS a b) (h' : leS b a) : a = b := by
 have e := List.le_antisymm (leS_cps.mp h) (leS_cps.mp h')
 cases a; cases b
 simp only at e
 congr 1
 exact Array.toList_inj.mp e
theorem leS_total (a b : Str) : leS a b ∨ leS b a := (List.le_total a.cps.toList b.cps.toList).imp leS_cps.mpr leS_cps.mpr
theorem leS_trans {a b c : Str} (h : leS a b) (h' : leS b c) : leS a c := leS_cps.mpr (List.le_trans (leS_cps.mp h) (leS_cps.mp h'))
theorem insS_perm (x : Str) : ∀ r : List Str, (insS x r).Perm (x :: r)
 | [] => .refl _
 | y :: r => by
  unfold insS
  cases ltS y x with
  | true => exact ((insS_perm x r).cons y).trans (.swap x y r)
  | false => exact .refl _
theorem sortS_perm : ∀ r : List Str, (sortS r).Perm r
 | [] => .refl _
 | x :: r => (insS_perm x _).trans ((sortS_perm r).cons x)
theorem insS_sorted (x : Str) : ∀ r : List Str, r.Pairwise leS → (insS x r).Pairwise leS
 | [], _ => by simp [insS]
 | y :: r, h => by
  have h' := List.pairwise_cons.mp h
  unfold insS; split
  ·rename_i q
   refine List.pairwise_cons.mpr ⟨fun z hz => ?_, insS_sorted x r h'.2⟩
   rcases List.mem_cons.mp ((insS_perm x r).subset hz) with rfl | hz
   ·rcases leS_total y z with l | l
    ·exact l
    ·unfold leS at l; rw [q] at l; cases l
   ·exact h'.1 z hz
  ·rename_i q
   have hx : leS x y := by unfold leS; exact Bool.eq_false_iff.mpr q
   refine List.pairwise_cons.mpr ⟨fun z hz => ?_, h⟩
   rcases List.mem_cons.mp hz with rfl | hz
   ·exact hx
   ·exact leS_trans hx (h'.1 z hz)
theorem sortS_sorted : ∀ r : List Str, (sortS r).Pairwise leS
 | [] => .nil
 | x :: r => insS_sorted x _ (sortS_sorted r)
theorem sorted_unique {a b : List Str} (ha : a.Pairwise leS) (hb : b.Pairwise leS) (h : a.Perm b) : a = b :=
 List.Perm.eq_of_pairwise (fun _ _ _ _ => leS_antisymm) ha hb h
theorem leS_ltCps {a b : Str} : (Spec.ltCps b.cps.toList a.cps.toList) = false ↔ leS a b := by
 unfold leS ltS; rw [ltCps_eq]
theorem risingS_iff : ∀ (r : List Str) (p : Str), risingS p r = true → (p :: r).Pairwise leS
 | [], p, _ => by simp
 | x :: r, p, h => by
  simp only [risingS, Bool.and_eq_true, Bool.not_eq_true'] at h
  have h2 := risingS_iff r x h.2
  have h1 := leS_ltCps.mp h.1
  refine List.pairwise_cons.mpr ⟨fun z hz => ?_, h2⟩
  rcases List.mem_cons.mp hz with rfl | hz
  ·exact h1
  ·exact leS_trans h1 ((List.pairwise_cons.mp h2).1 z hz)
theorem sortedS_iff : ∀ (r : List Str), sortedS r = true → r.Pairwise leS
 | [], _ => .nil
 | x :: r, h => risingS_iff r x h
section
variable {prog : Program} {w : World} {A : Around} {s : Shared} {W : Addr → Prop}
end
section
variable {prog : Program} {w : World} {A : Around} {s : Shared} {W : Addr → Prop}
noncomputable def Bi.val : Bi → Value
 | .type => .type "type" | .range => .type "range" | .enumerate => .type "enumerate"
 | .len => .builtin "len" | .sorted => .builtin "sorted" | .min => .builtin "min"
theorem bi_ok {b : Bi} {ds : List D} {d : D} {us : List Value} {W₀ : Addr → Prop} (e : biD b ds = some d) (r : RL prog w s.heap W₀ us ds) (hh : A.handled = none) (hn : ∀ h : Heap, s.heap.objs.size ≤ h.objs.size → ¬ W h.objs.size) (hn2 : ∀ a, s.heap.get? a = none → ¬ W a) :
  Ok (model prog w) A (call b.val us) s (BP prog w W s.heap d) := by
 revert r
 refine biE e (fun ds hsz r => ?_) (fun x hsz r => ?_) (fun ds xs hx hsz r => ?_) (fun a b r => ?_) (fun x r => ?_)
 ·refine r.oneE fun v r1 => R.lstE r1 fun a vs n _ hv rb => ?_
  have hl := rb.length
  exact Calls.call_len_list (isList_of_sq hv) (by rw [List.size_toArray, hl]; have : ds.length ≤ 100000 := hsz; omega) ⟨s.heap, _, rfl, fun _ _ e => e, by rw [List.size_toArray, hl]; exact .int _ _⟩
 ·exact r.oneE fun v r1 => R.strE r1 fun t => PyProof.Rows.len_str (by have : x.length ≤ 100000 := hsz; omega) ⟨s.heap, _, rfl, fun _ _ e => e, .int _ _⟩
 ·rw [strsOf_eq hx] at r
  refine r.oneE fun v r1 => R.lstE r1 fun a vs n _ hv rb => ?_
  refine SR.sorted_strs (isList_of_sq hv) rb.strs (by rw [rb.strs.length]; exact hsz) fun out ss' h1 h2 h3 => ?_
  rw [sorted_unique (sortedS_iff _ h3) (sortS_sorted xs) (h2.trans (sortS_perm xs).symm)] at h1
  obtain ⟨n', hS⟩ := sortedAll_at s.heap vs out
  refine ⟨_, _, rfl, fun _ _ e => sortedAll_old e, .lst (vs := out.toList) (n := n') ?_ (by rw [hS]) (RL.of_strs h1)⟩
  have := hn ((s.heap.push (sq "list" [] 0))) (by rw [Heap.size_push]; exact Nat.le_succ _)
  rwa [Heap.size_push] at this
 ·refine r.twoE fun v v' r1 r2 => R.intE r1 fun t => R.intE r2 fun t' => min_two_ints hh fun h' tk hk => ⟨_, _, rfl, hk, ?_⟩
  by_cases c : b < a
  ·rw [if_pos c, if_pos c]; exact .int _ _
  ·rw [if_neg c, if_neg c]; exact .int _ _
 ·exact r.oneE fun v r1 => R.strE r1 fun t => PySem.call_type_of (typeIs_str _ _ _) rfl ⟨s.heap, _, rfl, fun _ _ e => e, .ty _⟩
end
end
section
section
variable {prog : Program} {w : World} {A : Around} {s : Shared} {W : Addr → Prop}
noncomputable def Me.at : Me → String × String
 | .rfind => ("str", "str.rfind") | .startswith => ("str", "str.startswith") | .endswith => ("str", "str.endswith") | .rstrip => ("str", "str.rstrip")
 | .split => ("str", "str.split") | .join => ("str", "str.join") | .get => ("dict", "dict.get")
theorem Me.plain (m : Me) : PlainAttrs m.at.1 := by
 cases m
 all_goals first | exact F.plainAttrs_str | exact F.plainAttrs_dict
theorem Me.slot (m : Me) : Slot m.at.1 m.py m.at.2 := by
 cases m
 ·exact F.slot_str_rfind
 ·exact F.slot_str_startswith
 ·exact F.slot_str_endswith
 ·exact F.slot_str_rstrip
 ·exact F.slot_str_split
 ·exact F.slot_str_join
 ·exact F.slot_dict_get
theorem Me.ty (m : Me) : typeOf (.builtin m.at.2) = pure (.type "method_descriptor") := by
 cases m
 ·exact F.type_str_rfind
 ·exact F.type_str_startswith
 ·exact F.type_str_endswith
 ·exact F.type_str_rstrip
 ·exact F.type_str_split
 ·exact F.type_str_join
 ·exact F.type_dict_get
theorem self_str {u : Value} {x : Str} {Wa : Addr → Prop} (r : R prog w s.heap Wa u (.str x)) : s.TypeIs u "str" ∧ (∀ a, u = .ref a → ∃ ob, s.heap.get? a = some ob ∧ ob.dict = none) :=
 R.strE r fun _ => ⟨typeIs_str _ _ _, fun _ q => nomatch q⟩
theorem me_self {m : Me} {o d : D} {ds : List D} {u : Value} {Wa : Addr → Prop} (e : meD m o ds = some d) (ru : R prog w s.heap Wa u o) :
  s.TypeIs u m.at.1 ∧ (∀ a, u = .ref a → ∃ ob, s.heap.get? a = some ob ∧ ob.dict = none) := by
 revert ru
 exact meE e (fun _ _ => self_str) (fun _ _ => self_str) (fun _ _ => self_str) (fun _ _ _ => self_str) (fun _ _ _ => self_str) (fun _ _ _ _ _ => self_str)
  (fun _ _ _ _ ru => R.dctE ru fun _ _ _ _ hd _ _ => ⟨hd.mapOf.typeIs, hd.mapOf.noDict⟩)
theorem split_ok {x y : Str} {t u : Tok} (hsz : x.length ≤ strLine ∧ y.length ≠ 0) (hn : ¬ W s.heap.objs.size) : Ok (model prog w) A (call (.builtin "str.split") [.str x t, .str y u]) s (BP prog w W s.heap (.lst ((Txt.split x y).map .str))) := by
 have hy : (y.length == 0) = false := beq_eq_false_iff_ne.mpr hsz.2
 have hl1 : x.length + 2 ≤ sizeLine := by rw [sizeLine_eq]; exact Nat.le_trans (Nat.add_le_add_right hsz.1 2) (by decide)
 have hn' : (Builtin.Str.partsBetween x (Builtin.Str.occurrences x y 0 x.length (x.length + 1)) y.length).length ≤ sizeLine := by
  rw [length_partsBetween]; exact Nat.le_trans (Nat.succ_le_succ (StrLaws.occ_length_le x y 0 x.length (x.length + 1))) hl1
 have fin : ∀ (l : List (Str × Tok)) (k : Nat), l.map (·.1) = Txt.split x y → ∃ h' tk, ({ s with heap := s.heap.push { cls := .type "list", data := .seq (strValues l).toArray }, toks := k } : Shared) = (up s h' tk) ∧
   BP prog w W s.heap (.lst ((Txt.split x y).map .str)) (.ref s.heap.objs.size) h' := fun l k q =>
  ⟨_, _, rfl, fun _ _ e => Heap.get?_push_of_some _ e, q ▸ R_push_lst hn (RL.of_strs (strsAre_of_values l))⟩
 cases h1 : (decide (x.length < y.length) || decide (Builtin.Str.strKind x < Builtin.Str.strKind y))
 ·cases hf : (Builtin.Str.occurrences x y 0 x.length (x.length + 1)).isEmpty
  ·refine call_meets F.slot_str_split (typeIs_str _ _ _) F.entry_str_split (F.args_str_split_2 _ _) (meets_str_split_sep x y t u h1 hy hf (by omega) hn') ?_
   rw [strsFrom_eq]
   exact fin (numbered s.toks _) _ ((numbered_texts _ _).trans ((if_neg (ne_true_of_eq_false h1)).trans (if_neg (ne_true_of_eq_false hf))).symm)
  ·exact call_meets F.slot_str_split (typeIs_str _ _ _) F.entry_str_split (F.args_str_split_2 _ _) (meets_str_split_not_found x y t u h1 hy hf)
    (fin [(x, t)] s.toks ((if_neg (ne_true_of_eq_false h1)).trans (if_pos hf)).symm)
 ·exact call_meets F.slot_str_split (typeIs_str _ _ _) F.entry_str_split (F.args_str_split_2 _ _) (meets_str_split_cannot_occur x y t u h1)
   (fin [(x, t)] s.toks (if_pos h1).symm)
theorem me_ok {m : Me} {o d : D} {ds : List D} {u : Value} {us : List Value} (e : meD m o ds = some d) (ru : R prog w s.heap W u o) (r : RL prog w s.heap W us ds) (hn : ∀ h : Heap, s.heap.objs.size ≤ h.objs.size → ¬ W h.objs.size) :
  Ok (model prog w) A (call (.builtin m.at.2) (u :: us)) s (BP prog w W s.heap d) := by
 revert ru r
 refine meE e (fun x y ru r => ?_) (fun x y ru r => ?_) (fun x y ru r => ?_) (fun x y hsz ru r => ?_) (fun x y hsz ru r => ?_) (fun x ds ys hx hsz ru r => ?_) (fun ks ds x dflt ru r => ?_)
 ·exact R.strE ru fun t => r.oneE fun v r1 => R.strE r1 fun t' => SC.rfind ⟨s.heap, _, rfl, fun _ _ e => e, .int _ _⟩
 ·exact R.strE ru fun t => r.oneE fun v r1 => R.strE r1 fun t' => SC.startswith ⟨s.heap, _, rfl, fun _ _ e => e, .bool _⟩
 ·exact R.strE ru fun t => r.oneE fun v r1 => R.strE r1 fun t' => SC.endswith ⟨s.heap, _, rfl, fun _ _ e => e, .bool _⟩
 ·exact R.strE ru fun t => r.oneE fun v r1 => R.strE r1 fun t' => SC.rstripChars (fun t' k => ⟨s.heap, _, rfl, fun _ _ e => e, .str _ _⟩) (le_line hsz)
 ·exact R.strE ru fun t => r.oneE fun v r1 => R.strE r1 fun t' => split_ok hsz (hn _ (Nat.le_refl _))
 ·rw [strsOf_eq hx] at r
  exact R.strE ru fun t => r.oneE fun v r1 => R.lstE r1 fun a vs n _ hv rb => join_listW (isList_of_sq hv) rb.strs hsz.1 (by have := hsz.2; unfold strLine sumLen at this; omega) fun t' k => ⟨s.heap, _, rfl, fun _ _ e => e, .str _ _⟩
 ·refine r.twoE fun v v2 r1 r2 => R.strE r1 fun t => R.dctE ru fun a kvs _ lo hd he rb => ?_
  refine call_meetsIn F.slot_dict_get hd.mapOf.typeIs F.entry_dict_get (F.args_dict_get_3 _ _ _) (meets_dict_get_default (strKind prog w) a (strKind_is prog w _ _) lo v2) ⟨_, hd.mapOf, s.heap, _, rfl, fun _ _ e => e, ?_⟩
  rw [he]
  cases hk : lookD (kvs.map (·.1)) ds x with
  | none => rw [lookD_none rb hk]; exact r2
  | some d => obtain ⟨v, hv, rv⟩ := lookD_valueAt rb hk; rw [hv]; exact rv
end
end
section
noncomputable def prs (nm fn : Nat → Str) (env : Env) (p : Pos) : XS → XS → List (Sem Value × Sem Value)
 | .cons k ks, .cons v vs => (eval (k.py nm fn) env, do let x ← eval (v.py nm fn) env; standAt p; pure x) :: prs nm fn env p ks vs
 | _, _ => []
theorem prs_shape (nm fn : Nat → Str) (env : Env) (p : Pos) : ∀ ks es : XS, (evalEachOpt (ks.opy nm fn) env).zip ((evalEach (es.py nm fn) env).map fun v => do let x ← v; standAt p; pure x) = (prs nm fn env p ks es).map (fun p => (some p.1, p.2))
 | .nil, _ => rfl
 | .cons _ _, .nil => rfl
 | .cons k ks, .cons v vs => by
  show (some (eval (k.py nm fn) env), _) :: List.zip _ _ = _
  rw [show prs nm fn env p (.cons k ks) (.cons v vs) = (eval (k.py nm fn) env, do let x ← eval (v.py nm fn) env; standAt p; pure x) :: prs nm fn env p ks vs from rfl, List.map_cons, ← prs_shape nm fn env p ks vs]
noncomputable def Con (prog : Program) (w : World) (base : Heap) (fe : FE) (fa : Addr) : Prop :=
 ∀ (A : Around) (fr : List Env) (s : Shared), Cx A fr base s.heap fe.need → 0 ≤ s.toks → ∀ ds d, fe.g ds = some d → ∀ (W : Addr → Prop) us, (∀ a, frA fr a → W a) → (∀ a, W a → ∃ o, s.heap.get? a = some o) →
  RL prog w s.heap W us ds → Ok (model prog w) A (call (.ref fa) us) s (fun v h' => Kp (SS fr (!fe.exact)) s.heap h' ∧ R prog w h' W v d)
noncomputable def Has (base : Heap) (x : Str) (v : Value) : Prop := ∃ mg mb, base.Ns mainGlobals mg ∧ base.Ns builtinsNs mb ∧ mg x = none ∧ mb x = some v
structure Am (prog : Program) (w : World) (nm fn : Nat → Str) (FT : List FE) (base : Heap) (N : Nat) : Prop where
 nmd : ∀ i, (nm i == "__debug__") = false ∧ (nm i == "__classdict__") = false
 inj : ∀ i j, nm i = nm j → i = j
 fnd : ∀ f, (fn f == "__debug__") = false
 hasBi : ∀ b : Bi, Has base b.py b.val
 hasSub : Has base "issubclass" (.builtin "issubclass")
 hasIsi : Has base "isinstance" (.builtin "isinstance")
 hasStr : Has base "str" (.type "str")
 hasBy : Has base "bytes" (.type "bytes")
 fns : ∃ mg, base.Ns mainGlobals mg ∧ ∀ (f : Nat) (fe : FE), FT[f]? = some fe → ∃ fa o fd, mg (fn f) = some (.ref fa) ∧ base.get? fa = some o ∧ o.data = .func fd ∧ fe.need ≤ N ∧ Con prog w base fe fa
section
variable {prog : Program} {w : World} {nm fn : Nat → Str} {FT : List FE} {base : Heap} {N : Nat} {A : Around} {fr : List Env} {env : Env} {sc : Scope} {W : Bool → Addr → Prop} {ρ : Rho} {s : Shared}
variable (prog w nm fn FT base N) in
structure Sound (n : Nat) : Prop where
 ev : ∀ sc e tp ρ v, ev nm fn FT n sc e tp ρ = some v → ∀ A fr env W s, St (prog := prog) (w := w) (nm := nm) A fr base N env sc W ρ s →
  Ok (model prog w) A (eval (e.py nm fn) env) s (EvP prog w fr W tp s.heap v)
 evs : ∀ sc es tp ρ vs, evs nm fn FT n sc es tp ρ = some vs → ∀ A fr env W s p, St (prog := prog) (w := w) (nm := nm) A fr base N env sc W ρ s →
  Ok (model prog w) A (spliced (backTo p (starEach (es.py nm fn) env))) s (EvsP prog w fr W tp s.heap vs)
 evP : ∀ sc ks es tp ρ vs, evP nm fn FT n sc ks es tp ρ = some vs → ∀ A fr env W s p, St (prog := prog) (w := w) (nm := nm) A fr base N env sc W ρ s →
  (prs nm fn env p ks es).length = vs.length ∧ Ok (model prog w) A (evalPairs (prs nm fn env p ks es)) s (fun kvs h' => Kp (SS fr tp) s.heap h' ∧ allStrKeys kvs = true ∧ (strPairs kvs).map (·.1) = vs.map (·.1) ∧ RVs prog w h' W ((strPairs kvs).map (·.2)) (vs.map (·.2)))
 evO : ∀ sc e tp ρ v, evO nm fn FT n sc e tp ρ = some v → ∀ A fr env W s, St (prog := prog) (w := w) (nm := nm) A fr base N env sc W ρ s →
  Ok (model prog w) A (evalPart (e.py nm fn) env) s (fun u h' => Kp (SS fr tp) s.heap h' ∧ PartR u v)
 evT : ∀ sc e tp ρ b, evT nm fn FT n sc e tp ρ = some b → ∀ A fr env W s, St (prog := prog) (w := w) (nm := nm) A fr base N env sc W ρ s →
  Ok (model prog w) A (isTrue (e.py nm fn) env (eval (e.py nm fn) env)) s (fun u h' => Kp (SS fr tp) s.heap h' ∧ u = b)
theorem load_ok {x : Str} {pos : Pos} {v : Value} {P : Value → Heap → Prop} (g : EnvG env) (y : Holds env s.heap x v) (h : P v s.heap)
  (hd : (x == ("__debug__" : Str)) = false ∧ (x == ("__classdict__" : Str)) = false) : Ok (model prog w) A (eval (.Name x pos) env) s P := by
 rcases y with ⟨hk, m, hn, hv⟩ | ⟨hk, c, hc', hv⟩
 ·exact wpAny_Name (wpAny_loadName_local g.kind hk hn hv ⟨_, _, rfl, h⟩) hd.1
 ·rcases hk with hk | hk
  ·exact wpAny_Name (wpAny_loadName_cell g.kind hk hc' hv ⟨_, _, rfl, h⟩) hd.1
  ·exact wpAny_Name (wpAny_loadName_free g.kind hk hc' hv ⟨_, _, rfl, h⟩ hd.2) hd.1
theorem kind_isG {x : Str} (g : EOk prog w nm env sc s.heap W ρ) (hx : isG sc x = true) : env.kindOf x = some .globalImplicit := by
 unfold isG at hx; unfold Env.kindOf; rw [g.sc]; exact eq_of_beq hx
theorem load_builtin {x : Str} {pos : Pos} {v : Value} {P : Value → Heap → Prop} (st : St (prog := prog) (w := w) (nm := nm) A fr base N env sc W ρ s) (hx : isG sc x = true)
  {mg mb : Str → Option Value} (hg : base.Ns mainGlobals mg) (hb : base.Ns builtinsNs mb) (hn : mg x = none) (hv : mb x = some v) (h : P v s.heap) (hd : (x == ("__debug__" : Str)) = false) :
  Ok (model prog w) A (eval (.Name x pos) env) s P := by
 refine Calls.Name_function_global st.e.g.kind (kind_isG st.e hx) (Calls.loadGlobal_builtin (mg := mg) (mb := mb) ?_ hn ?_ hv ⟨_, _, rfl, h⟩) hd
 ·rw [st.e.g.gl]; exact hg.keeps st.cx.stay
 ·rw [st.e.g.bl]; exact hb.keeps st.cx.stay
theorem load_global {x : Str} {pos : Pos} {v : Value} {P : Value → Heap → Prop} (st : St (prog := prog) (w := w) (nm := nm) A fr base N env sc W ρ s) (hx : isG sc x = true)
  {mg : Str → Option Value} (hg : base.Ns mainGlobals mg) (hv : mg x = some v) (h : P v s.heap) (hd : (x == ("__debug__" : Str)) = false) :
  Ok (model prog w) A (eval (.Name x pos) env) s P := by
 refine Calls.Name_function_global st.e.g.kind (kind_isG st.e hx) (Calls.loadGlobal_global (mg := mg) ?_ hv ⟨_, _, rfl, h⟩) hd
 rw [st.e.g.gl]; exact hg.keeps st.cx.stay
theorem Has.ld {x : Str} {v : Value} (hb : Has base x v) {pos : Pos} {Q E : Value → Shared → Prop} (st : St (prog := prog) (w := w) (nm := nm) A fr base N env sc W ρ s) (hx : isG sc x = true) (c : ∀ tk, s.toks ≤ tk → St (prog := prog) (w := w) (nm := nm) A fr base N env sc W ρ (up s s.heap tk) → Q v (up s s.heap tk)) (hd : (x == ("__debug__" : Str)) = false := by rfl) :
  wpAny (model prog w) A (eval (.Name x pos) env) Q E s := by
 obtain ⟨mg, mb, a, b, d, e⟩ := hb
 exact (load_builtin (P := fun u h' => u = v ∧ h' = s.heap) st hx a b d e ⟨rfl, rfl⟩ hd).wpE fun tk hn => c tk hn (st.step (tp := false) hn Kp.refl)
theorem Am.fnE (am : Am prog w nm fn FT base N) {f : Nat} {fe : FE} (hf : FT[f]? = some fe) {pos : Pos} {Q E : Value → Shared → Prop} (st : St (prog := prog) (w := w) (nm := nm) A fr base N env sc W ρ s) (hx : isG sc (fn f) = true)
  (c : ∀ fa o fd tk, s.toks ≤ tk → St (prog := prog) (w := w) (nm := nm) A fr base N env sc W ρ (up s s.heap tk) → base.get? fa = some o → o.data = .func fd → fe.need ≤ N → Con prog w base fe fa → Q (.ref fa) (up s s.heap tk)) : wpAny (model prog w) A (eval (.Name (fn f) pos) env) Q E s := by
 obtain ⟨mg, a, k⟩ := am.fns
 obtain ⟨fa, o, fd, h1, h2, h3, h4, h5⟩ := k f fe hf
 exact (load_global (P := fun u h' => u = .ref fa ∧ h' = s.heap) st hx a h1 ⟨rfl, rfl⟩ (am.fnd f)).wpE fun tk hn => c fa o fd tk hn (st.step (tp := false) hn Kp.refl) h2 h3 h4 h5
theorem star_py (e : X) (rest : List Expr) : starEach (e.py nm fn :: rest) env = (false, eval (e.py nm fn) env) :: starEach rest env := by cases e <;> rfl
theorem beh_py (op : CmpOp) (b : X) : behindInMarks op (b.py nm fn) = false := by cases b <;> rfl
theorem sub_py (b : X) (u v : Value) : subscripted (b.py nm fn) false u v = operate [u, v] (getItem u v) := by cases b <;> rfl
theorem plain_py : ∀ (es : XS) (p : Pos), (backTo p (starEach (es.py nm fn) env)).any (·.1) = false
 | .nil, _ => rfl
 | .cons e r, p => by
  show (backTo p (starEach (e.py nm fn :: r.py nm fn) env)).any (·.1) = false
  rw [star_py]
  show (false || (backTo p (starEach (r.py nm fn) env)).any (·.1)) = false
  rw [plain_py r p]; rfl
theorem R.itV {h : Heap} {v : Value} {d : D} {t : Bool} (r : R prog w h (W t) v d) : R prog w h (W (itV d t).2) v (itV d t).1 := by
 cases hd : d.atom with
 | true => exact r.of_atom hd
 | false =>
  have : Mine.itV d t = (d, t) := by unfold Mine.itV; rw [hd]; simp
  rw [this]; exact r
theorem Sound.k {n : Nat} (ih : Sound prog w nm fn FT base N n) {a : X} {tp : Bool} {v : V} (h1 : Mine.ev nm fn FT n sc a tp ρ = some v) (st : St (prog := prog) (w := w) (nm := nm) A fr base N env sc W ρ s) {Q E : Value → Shared → Prop}
  (c : ∀ u h' tk, s.toks ≤ tk → Kp (SS fr tp) s.heap h' → R prog w h' (W v.2) u v.1 → St (prog := prog) (w := w) (nm := nm) A fr base N env sc W ρ (up s h' tk) → Q u (up s h' tk)) : wpAny (model prog w) A (eval (a.py nm fn) env) Q E s :=
 (ih.ev _ _ _ _ _ h1 A fr env W s st).wp fun u h' tk hn p => c u h' tk hn p.1 p.2 (st.step hn p.1)
theorem Sound.ks {n : Nat} (ih : Sound prog w nm fn FT base N n) {as : XS} {tp : Bool} {vs : List V} (h1 : Mine.evs nm fn FT n sc as tp ρ = some vs) (st : St (prog := prog) (w := w) (nm := nm) A fr base N env sc W ρ s) {p : Pos} {Q : List Value → Shared → Prop} {E : Value → Shared → Prop}
  (c : ∀ us h' tk, s.toks ≤ tk → Kp (SS fr tp) s.heap h' → RVs prog w h' W us vs → St (prog := prog) (w := w) (nm := nm) A fr base N env sc W ρ (up s h' tk) → Q us (up s h' tk)) : wpAny (model prog w) A (spliced (backTo p (starEach (as.py nm fn) env))) Q E s :=
 (ih.evs _ _ _ _ _ h1 A fr env W s p st).wp fun u h' tk hn p => c u h' tk hn p.1 p.2 (st.step hn p.1)
theorem Sound.kO {n : Nat} (ih : Sound prog w nm fn FT base N n) {a : OX} {tp : Bool} {v : Option D} (h1 : Mine.evO nm fn FT n sc a tp ρ = some v) (st : St (prog := prog) (w := w) (nm := nm) A fr base N env sc W ρ s) {Q E : Value → Shared → Prop}
  (c : ∀ u h' tk, s.toks ≤ tk → Kp (SS fr tp) s.heap h' → PartR u v → St (prog := prog) (w := w) (nm := nm) A fr base N env sc W ρ (up s h' tk) → Q u (up s h' tk)) : wpAny (model prog w) A (evalPart (a.py nm fn) env) Q E s :=
 (ih.evO _ _ _ _ _ h1 A fr env W s st).wp fun u h' tk hn p => c u h' tk hn p.1 p.2 (st.step hn p.1)
theorem Sound.kT {n : Nat} (ih : Sound prog w nm fn FT base N n) {a : X} {tp : Bool} {b : Bool} (h1 : Mine.evT nm fn FT n sc a tp ρ = some b) (st : St (prog := prog) (w := w) (nm := nm) A fr base N env sc W ρ s) {Q : Bool → Shared → Prop} {E : Value → Shared → Prop}
  (c : ∀ h' tk, s.toks ≤ tk → Kp (SS fr tp) s.heap h' → St (prog := prog) (w := w) (nm := nm) A fr base N env sc W ρ (up s h' tk) → Q b (up s h' tk)) : wpAny (model prog w) A (isTrue (a.py nm fn) env (eval (a.py nm fn) env)) Q E s :=
 (ih.evT _ _ _ _ _ h1 A fr env W s st).wp fun u h' tk hn p => by rw [p.2]; exact c h' tk hn p.1 (st.step hn p.1)
theorem sound_evs {n : Nat} (ih : Sound prog w nm fn FT base N n) : ∀ sc es tp ρ vs, evs nm fn FT (n + 1) sc es tp ρ = some vs → ∀ A fr env W s p, St (prog := prog) (w := w) (nm := nm) A fr base N env sc W ρ s →
  Ok (model prog w) A (spliced (backTo p (starEach (es.py nm fn) env))) s (EvsP prog w fr W tp s.heap vs) := by
 intro sc es tp ρ vs e A fr env W s p st
 cases es with
 | nil => exact someE e (Calls.spliced_nil (fin ⟨Kp.refl, .nil⟩))
 | cons x r =>
  refine I.cons e fun v vs h1 h2 => ?_
  show Ok _ A (spliced (backTo p (starEach (x.py nm fn :: r.py nm fn) env))) s _
  rw [star_py]
  exact Calls.spliced_cons (ih.k h1 st fun v' h' tk hn k1 r1 st1 => ih.ks h2 st1 fun us h'' tk' hn' k2 r2 _ => fin ⟨k1.trans k2, .cons (k2.R (st.wo.fr' tp v.2) r1) r2⟩)
theorem sound_evP {n : Nat} (ih : Sound prog w nm fn FT base N n) : ∀ sc ks es tp ρ vs, evP nm fn FT (n + 1) sc ks es tp ρ = some vs → ∀ A fr env W s p, St (prog := prog) (w := w) (nm := nm) A fr base N env sc W ρ s →
  (prs nm fn env p ks es).length = vs.length ∧ Ok (model prog w) A (evalPairs (prs nm fn env p ks es)) s (fun kvs h' => Kp (SS fr tp) s.heap h' ∧ allStrKeys kvs = true ∧ (strPairs kvs).map (·.1) = vs.map (·.1) ∧ RVs prog w h' W ((strPairs kvs).map (·.2)) (vs.map (·.2))) := by
 intro sc ks es tp ρ vs e A fr env W s p st
 cases ks with
 | nil => cases es with
  | nil => exact someE e ⟨rfl, Ok.pure ⟨Kp.refl, rfl, rfl, .nil⟩⟩
  | cons => exact optE e
 | cons k ks => cases es with
  | nil => exact optE e
  | cons v es =>
  refine I.pcons e fun x t v' vs' h1 h2 h3 => ⟨congrArg (· + 1) (ih.evP _ _ _ _ _ _ h3 A fr env W s p st).1, ?_⟩
  refine evalPairs_cons (ih.k h1 st fun kv h' tk hn k1 r1 st1 => wpAny_bind (ih.k h2 st1 fun vv h'' tk' hn' k2 r2 st2 => wpAny_bind (wpAny_standAt (wpAny_pure ?_))))
  refine (ih.evP _ _ _ _ _ _ h3 A fr env W _ p st2).2.wp fun us h3 tk3 hn3 p3 => R.strE r1 fun t => ?_
  exact fin ⟨(k1.trans k2).trans p3.1, p3.2.1, congrArg (x :: ·) p3.2.2.1, .cons (p3.1.R (st.wo.fr' tp v'.2) r2) p3.2.2.2⟩
theorem sound_evO {n : Nat} (ih : Sound prog w nm fn FT base N n) : ∀ sc e tp ρ v, evO nm fn FT (n + 1) sc e tp ρ = some v → ∀ A fr env W s, St (prog := prog) (w := w) (nm := nm) A fr base N env sc W ρ s →
  Ok (model prog w) A (evalPart (e.py nm fn) env) s (fun u h' => Kp (SS fr tp) s.heap h' ∧ PartR u v) := by
 intro sc e tp ρ v h A fr env W s st
 cases e with
 | none => exact someE h (Ok.pure ⟨Kp.refl, .none⟩)
 | some e => exact I.osome h fun i t h1 => ih.k h1 st fun u h' tk hn k1 r1 _ => fin ⟨k1, PartR.of r1⟩
theorem truth_ok {d : D} {b : Bool} {v : Value} {W : Addr → Prop} (e : truthD d = some b) (r : R prog w s.heap W v d) : Ok (model prog w) A (truthy v) s (fun u h' => h' = s.heap ∧ u = b) := by
 revert r
 refine truthE e (fun b r => ?_) (fun i r => ?_) (fun x hsz r => ?_) (fun ds hsz r => ?_)
 ·exact R.boolE r (wpAny_truthy_bool ⟨_, _, rfl, rfl, rfl⟩)
 ·exact R.intE r fun t => PyProof.Rows.truthy_int ⟨_, _, rfl, rfl, rfl⟩
 ·exact R.strE r fun t => PySem.P.truthy_str (by have : x.length ≤ 100000 := hsz; omega) ⟨_, _, rfl, rfl, rfl⟩
 ·refine R.lstE r fun a vs n _ hv rb => wpAny_truthy_list (isList_of_sq hv) (by have : ds.length ≤ 100000 := hsz; rw [List.size_toArray, rb.length]; omega) ⟨_, _, rfl, rfl, ?_⟩
  cases rb <;> rfl
theorem isTrue_default {e : Expr} {whole : Sem Value} {P : Bool → Heap → Prop} (h : Ok (model prog w) A whole s fun v h' => ∀ tk, s.toks ≤ tk → Ok (model prog w) A (truthy v) (up s h' tk) P)
  (he : isTrue e env whole = (do let v ← whole; standAt e.pos; holding [v] (truthy v))) : Ok (model prog w) A (isTrue e env whole) s P :=
 wpAny_isTrue_value (h.wp fun v h' tk hn p => p tk hn) he
noncomputable def TrueBy (nm fn : Nat → Str) (FT : List FE) (e : X) : Prop := (∀ n sc tp ρ, evT nm fn FT (n + 1) sc e tp ρ = match ev nm fn FT n sc e tp ρ with | some v => truthD v.1 | none => none) ∧
 ∀ env, isTrue (e.py nm fn) env (eval (e.py nm fn) env) = (do let v ← eval (e.py nm fn) env; standAt (e.py nm fn).pos; holding [v] (truthy v))
@[elab_as_elim] theorem trueCases (nm fn : Nat → Str) (FT : List FE) {P : X → Prop} (h1 : ∀ a p, P (.not a p)) (h2 : ∀ a b p, P (.and a b p)) (h3 : ∀ a b p, P (.or a b p)) (h4 : ∀ op a b p, P (.cmp op a b p)) (h5 : ∀ t a b p, P (.ite t a b p)) (h6 : ∀ e, TrueBy nm fn FT e → P e) (e : X) : P e := match e with
 | .not _ _ => h1 _ _
 | .and _ _ _ => h2 _ _ _
 | .or _ _ _ => h3 _ _ _
 | .cmp _ _ _ _ => h4 _ _ _ _
 | .ite _ _ _ _ => h5 _ _ _ _
 | .var _ _ => h6 _ ⟨fun _ _ _ _ => rfl, fun _ => rfl⟩
 | .int _ _ _ => h6 _ ⟨fun _ _ _ _ => rfl, fun _ => rfl⟩
 | .str _ _ _ => h6 _ ⟨fun _ _ _ _ => rfl, fun _ => rfl⟩
 | .bool _ _ _ => h6 _ ⟨fun _ _ _ _ => rfl, fun _ => rfl⟩
 | .neg _ _ => h6 _ ⟨fun _ _ _ _ => rfl, fun _ => rfl⟩
 | .bin _ _ _ _ => h6 _ ⟨fun _ _ _ _ => rfl, fun _ => rfl⟩
 | .item _ _ _ => h6 _ ⟨fun _ _ _ _ => rfl, fun _ => rfl⟩
 | .slice _ _ _ _ _ => h6 _ ⟨fun _ _ _ _ => rfl, fun _ => rfl⟩
 | .rev _ _ _ _ _ _ => h6 _ ⟨fun _ _ _ _ => rfl, fun _ => rfl⟩
 | .list _ _ => h6 _ ⟨fun _ _ _ _ => rfl, fun _ => rfl⟩
 | .tup _ _ _ => h6 _ ⟨fun _ _ _ _ => rfl, fun _ => rfl⟩
 | .dict _ _ _ => h6 _ ⟨fun _ _ _ _ => rfl, fun _ => rfl⟩
 | .lcomp _ _ _ _ => h6 _ ⟨fun _ _ _ _ => rfl, fun _ => rfl⟩
 | .dcomp _ _ _ _ _ => h6 _ ⟨fun _ _ _ _ => rfl, fun _ => rfl⟩
 | .call _ _ _ _ => h6 _ ⟨fun _ _ _ _ => rfl, fun _ => rfl⟩
 | .bi _ _ _ _ => h6 _ ⟨fun _ _ _ _ => rfl, fun _ => rfl⟩
 | .meth _ _ _ _ _ => h6 _ ⟨fun _ _ _ _ => rfl, fun _ => rfl⟩
 | .isSB _ _ _ _ _ _ _ => h6 _ ⟨fun _ _ _ _ => rfl, fun _ => rfl⟩
 | .isB _ _ _ _ => h6 _ ⟨fun _ _ _ _ => rfl, fun _ => rfl⟩
theorem sound_evT {n : Nat} (ih : Sound prog w nm fn FT base N n) : ∀ sc e tp ρ b, evT nm fn FT (n + 1) sc e tp ρ = some b → ∀ A fr env W s, St (prog := prog) (w := w) (nm := nm) A fr base N env sc W ρ s →
  Ok (model prog w) A (isTrue (e.py nm fn) env (eval (e.py nm fn) env)) s (fun u h' => Kp (SS fr tp) s.heap h' ∧ u = b) := by
 intro sc e tp ρ b h A fr env W s st
 revert h
 refine trueCases nm fn FT (fun a p h => ?_) (fun a c p h => ?_) (fun a c p h => ?_) (fun op a c p h => ?_) (fun _ _ _ _ h => optE h) (fun e he h => ?_) e
 ·exact mapE h fun b h1 => wpAny_isTrue_Not (ih.kT h1 st fun h' tk hn k1 _ => fin ⟨k1, rfl⟩)
 ·refine I.bT h (fun h1 h => ?_) fun h1 h => ?_
  ·refine wpAny_isTrue_BoolOp (wpAny_allTrue_And_cons (ih.kT h1 st fun h' tk hn k1 st1 => wpAny_allTrue_And_cons (ih.kT h st1 fun h'' tk' hn' k2 _ => ?_)))
   cases b
   ·exact ⟨_, _, rfl, k1.trans k2, rfl⟩
   ·exact wpAny_allTrue_And_nil ⟨_, _, rfl, k1.trans k2, rfl⟩
  ·exact someE h (wpAny_isTrue_BoolOp (wpAny_allTrue_And_cons (ih.kT h1 st fun h' tk hn k1 _ => ⟨_, _, rfl, k1, rfl⟩)))
 ·refine I.bT h (fun h1 h => ?_) fun h1 h => ?_
  ·exact someE h (wpAny_isTrue_BoolOp (wpAny_allTrue_Or_cons (ih.kT h1 st fun h' tk hn k1 _ => ⟨_, _, rfl, k1, rfl⟩)))
  ·refine wpAny_isTrue_BoolOp (wpAny_allTrue_Or_cons (ih.kT h1 st fun h' tk hn k1 st1 => wpAny_allTrue_Or_cons (ih.kT h st1 fun h'' tk' hn' k2 _ => ?_)))
   cases b
   ·exact wpAny_allTrue_Or_nil ⟨_, _, rfl, k1.trans k2, rfl⟩
   ·exact ⟨_, _, rfl, k1.trans k2, rfl⟩
 ·refine I.tcmp h fun x y h1 h2 h => wpAny_isTrue_Compare1 (ih.k h1 st fun u h' tk hn k1 r1 st1 => ih.k h2 st1 fun v h'' tk' hn' k2 r2 st2 => ?_) (beh_py _ c)
  have hu := st.cx.un
  refine (cmp_ok (W := fun _ => False) (s := up s h'' tk') h (k2.R (st.wo.fr' tp x.2) r1) r2 (by omega)).wp2 fun c h3 tk3 hn3 k3 r3 => ?_
  rw [isBool_of r3]
  exact wpAny_truthy_bool (fin ⟨(k1.trans k2).trans (Kp.of k3), rfl⟩)
 ·rw [he.1] at h
  refine I.b1 h fun v h1 h => isTrue_default (ih.k h1 st fun u h' tk hn k1 r1 _ => fin fun tk hn => ?_) (he.2 env)
  exact (truth_ok (s := up s h' tk) h r1).mono fun u h'' q => ⟨q.1 ▸ k1, q.2⟩
end
end
section
section
variable {prog : Program} {w : World} {nm fn : Nat → Str} {FT : List FE} {base : Heap} {N : Nat} {A : Around} {fr : List Env} {env : Env} {sc : Scope} {W : Bool → Addr → Prop} {ρ : Rho} {s : Shared}
theorem fresh_no {h : Heap} (wo : WOk fr W h) (t : Bool) : ∀ h' : Heap, h.objs.size ≤ h'.objs.size → ¬ W t h'.objs.size := fun h' hle q =>
 wo.new t (a := h'.objs.size) (Heap.get?_none_of_le hle) q
theorem EvP.of {tp : Bool} {h h' : Heap} {d : D} {t : Bool} {v : Value} (k : Kp (SS fr tp) h h') (r : R prog w h' (W t) v d) : EvP prog w fr W tp h (itV d t) v h' := ⟨k, r.itV⟩
variable (prog w nm fn FT base N) in
abbrev EvOk (n : Nat) (e : X) : Prop := ∀ sc tp ρ v, ev nm fn FT (n + 1) sc e tp ρ = some v → ∀ A fr env W s, St (prog := prog) (w := w) (nm := nm) A fr base N env sc W ρ s →
  Ok (model prog w) A (eval (e.py nm fn) env) s (EvP prog w fr W tp s.heap v)
variable (am : Am prog w nm fn FT base N) {n : Nat} (ih : Sound prog w nm fn FT base N n)
include am in
theorem ev_var (i : Nat) (p : Pos) : EvOk prog w nm fn FT base N n (.var i p) := by
 intro sc tp ρ v e A fr env W s st
 obtain ⟨σ, f, m⟩ := st.e.fm
 obtain ⟨hk, u, hu, r⟩ := m i v.1 v.2 e
 exact load_ok st.e.g (f.holds hk hu) ⟨Kp.refl, r⟩ (am.nmd i)
include ih
theorem ev_neg (a : X) (p : Pos) : EvOk prog w nm fn FT base N n (.neg a p) := by
 intro sc tp ρ v e A fr env W s st
 refine I.neg e fun i t h1 => wpAny_UnaryOp (ih.k h1 st fun u h' tk hn k1 r1 _ => R.intE r1 fun t => PyProof.Rows.neg_int (fin ⟨k1, .int _ _⟩))
theorem ev_bin (op : BOp) (a b : X) (p : Pos) : EvOk prog w nm fn FT base N n (.bin op a b p) := by
 intro sc tp ρ v e A fr env W s st
 refine I.bin e fun x y d h1 h2 hd => wpAny_BinOp (ih.k h1 st fun u h' tk hn k1 r1 st1 => ih.k h2 st1 fun v h'' tk' hn' k2 r2 st2 => ?_)
 exact (bin_ok (W := W (x.2 || y.2)) (s := up s h'' tk') hd (k2.R (st.wo.fr' tp x.2) r1) r2 (fresh_no st2.wo _ _ (Nat.le_refl _)) fun xs ys e1 e2 => ⟨fun vs r => RL.weak st2.wo _ _ (fun q => by rw [q]; rfl) r, fun vs r => RL.weak st2.wo _ _ (fun q => by rw [q, Bool.or_true]) r⟩).wp2 fun c h3 tk3 hn3 k3 r3 => fin (EvP.of ((k1.trans k2).trans (Kp.of k3)) r3)
theorem ev_cmp (op : COp) (a b : X) (p : Pos) : EvOk prog w nm fn FT base N n (.cmp op a b p) := by
 intro sc tp ρ v e A fr env W s st
 refine I.cmp e fun x y d h1 h2 hd => wpAny_Compare1 (ih.k h1 st fun u h' tk hn k1 r1 st1 => ih.k h2 st1 fun v h'' tk' hn' k2 r2 st2 => ?_) (beh_py _ b)
 have hu := st.cx.un
 exact (cmp_ok (W := W false) (s := up s h'' tk') hd (k2.R (st.wo.fr' tp x.2) r1) r2 (by omega)).wp2 fun c h3 tk3 hn3 k3 r3 => fin ⟨(k1.trans k2).trans (Kp.of k3), r3⟩
theorem ev_ite (t a b : X) (p : Pos) : EvOk prog w nm fn FT base N n (.ite t a b p) := by
 intro sc tp ρ v e A fr env W s st
 refine I.ite e (fun h1 e => ?_) fun h1 e => ?_
 ·refine wpAny_IfExp (ih.kT h1 st fun h' tk hn k1 st1 => ?_)
  rw [if_pos rfl]
  exact ih.k e st1 fun v h'' tk' hn' k2 r2 _ => fin ⟨k1.trans k2, r2⟩
 ·refine wpAny_IfExp (ih.kT h1 st fun h' tk hn k1 st1 => ?_)
  rw [if_neg Bool.false_ne_true]
  exact ih.k e st1 fun v h'' tk' hn' k2 r2 _ => fin ⟨k1.trans k2, r2⟩
theorem ev_item (a b : X) (p : Pos) : EvOk prog w nm fn FT base N n (.item a b p) := by
 intro sc tp ρ v e A fr env W s st
 refine I.item e fun x y d h1 h2 hd => Subscript_ (ih.k h1 st fun u h' tk hn k1 r1 st1 => ih.k h2 st1 fun v h'' tk' hn' k2 r2 st2 => ?_)
 obtain ⟨T, id, hT, hl, g⟩ := getItem_ok (A := A) (s := up s h'' tk') hd (k2.R (st.wo.fr' tp x.2) r1) r2
 exact tail_any hT hl (g.wp2 fun c h3 tk3 hn3 k3 r3 => fin (EvP.of ((k1.trans k2).trans (Kp.of k3)) r3)) (sub_py b u v)
theorem ev_slice (a : X) (lo hi : OX) (ps p : Pos) : EvOk prog w nm fn FT base N n (.slice a lo hi ps p) := by
 intro sc tp ρ v e A fr env W s st
 refine I.slice e fun x l h d h1 h2 h3 hd => Subscript_ (ih.k h1 st fun u h' tk hn k1 r1 st1 => wpAny_Slice (ih.kO h2 st1 fun vl h'' tk' hn' k2 r2 st2 => ih.kO h3 st2 fun vu h3 tk3 hn3 k3 r3 st3 => ?_))
 rw [evalPart_none]
 refine wpAny_pure ?_
 obtain ⟨T, id, hT, hl, g⟩ := getItem_slice_ok (A := A) (s := up s h3 tk3) hd ((k2.trans k3).R (st.wo.fr' tp x.2) r1) r2 r3 (fresh_no st3.wo _)
 exact tail_any (hT _ rfl) hl (g.wp2 fun c h4 tk4 hn4 k4 r4 => fin (EvP.of (((k1.trans k2).trans k3).trans (Kp.of k4)) r4)) rfl
theorem ev_rev (a : X) (k : Nat) (pc pn ps p : Pos) : EvOk prog w nm fn FT base N n (.rev a k pc pn ps p) := by
 intro sc tp ρ v e A fr env W s st
 refine I.rev e fun ds t h1 hsz => Subscript_ (ih.k h1 st fun u h' tk hn k1 r1 st1 => wpAny_Slice ?_)
 rw [evalPart_none]
 refine wpAny_pure (wpAny_pure ?_)
 rw [evalPart_some]
 refine wpAny_UnaryOp (wpAny_Constant_int (PyProof.Rows.neg_int ?_))
 obtain ⟨T, id, hT, hl, g⟩ := getItem_rev_ok (A := A) (s := up s h' (tk + 1 + 1)) hsz r1 (.int (-1) (tk + 1)) (fresh_no st1.wo _)
 exact tail_any (ops := [u, .ref h'.objs.size]) (hT _ rfl) hl (g.wp2 fun c h3 tk3 hn3 k3 r3 => fin ⟨k1.trans (Kp.of k3), r3⟩) rfl
theorem ev_list (es : XS) (p : Pos) : EvOk prog w nm fn FT base N n (.list es p) := by
 intro sc tp ρ v e A fr env W s st
 refine I.list e fun vs h1 hsz => wpAny_List (ih.ks h1 st fun us h' tk hn k1 r1 st1 => ⟨by rw [r1.length, sizeLine_eq]; omega, fin ⟨k1.trans (Kp.of fun _ _ e => Heap.get?_push_of_some _ e), ?_⟩⟩)
 exact R_push_lst (fresh_no st1.wo _ _ (Nat.le_refl _)) (r1.rl st1.wo _ fun q => by rw [q]; rfl)
theorem ev_tup (es : XS) (k : Nat) (p : Pos) : EvOk prog w nm fn FT base N n (.tup es k p) := by
 intro sc tp ρ v e A fr env W s st
 refine I.tup e fun vs h1 hsz => wpAny_Tuple (ih.ks h1 st fun us h' tk hn k1 r1 st1 => ⟨by rw [r1.length, sizeLine_eq]; omega, fin ⟨k1.trans (Kp.of fun _ _ e => Heap.get?_push_of_some _ e), ?_⟩⟩)
 exact R_push_tup (fresh_no st1.wo _ _ (Nat.le_refl _)) (r1.rl st1.wo _ fun q => by rw [q]; rfl)
theorem args_ok {f : Value} {as : XS} {p : Pos} {Q : Args → Shared → Prop} {E : Value → Shared → Prop} {vs : List V} {tp : Bool} (h1 : evs nm fn FT n sc as tp ρ = some vs) (hpos : 0 < vs.length)
  (st : St (prog := prog) (w := w) (nm := nm) A fr base N env sc W ρ s)
  (h : ∀ us h' tk, s.toks ≤ tk → Kp (SS fr tp) s.heap h' → RVs prog w h' W us vs → St (prog := prog) (w := w) (nm := nm) A fr base N env sc W ρ (up s h' tk) → Q ⟨us, []⟩ (up s h' tk)) :
  wpAny (model prog w) A (evalArgs f true (backTo p (starEach (as.py nm fn) env)) []) Q E s := by
 have key := ih.ks (p := p) (Q := fun us s' => Q ⟨us, []⟩ s') (E := E) h1 st h
 cases as with
 | nil => cases n with
  | zero => exact optE h1
  | succ n => exact absurd hpos (someE h1 (Nat.lt_irrefl _))
 | cons a r =>
 have e : backTo p (starEach ((XS.cons a r).py nm fn) env) = (false, eval (a.py nm fn) env) :: backTo p (starEach (r.py nm fn) env) := by
  show backTo p (starEach (a.py nm fn :: r.py nm fn) env) = _
  rw [star_py]; rfl
 rw [e] at key ⊢
 exact Calls.evalArgs_plain key
omit ih in
theorem args_plain {as : XS} {p : Pos} : (backTo p (starEach (as.py nm fn) env)).any (·.1) = false := plain_py as p
omit ih in
theorem args_few {tp : Bool} : ∀ {n : Nat} {as : XS} {vs : List V}, evs nm fn FT n sc as tp ρ = some vs → (as.py nm fn).length = vs.length
 | 0, _, _, h => optE h
 | n + 1, .nil, vs, h => someE h rfl
 | n + 1, .cons a r, vs, h => I.cons h fun v vs' _ h2 => congrArg (· + 1) (args_few h2)
end
end
section
section
variable {prog : Program} {w : World} {A : Around} {E : Value → Shared → Prop} {s : Shared}
theorem kind_isn : builtinKind "issubclass.nested" = none := by decide +kernel
theorem plain_isn : plainId "issubclass.nested" = true := by decide +kernel
theorem args_isn (a b c : Value) : argsOk "issubclass.nested" ⟨[a, b, c], []⟩ := by unfold argsOk; kernel_rfl
theorem str_self : isSubtype (.type "str") (.type "str") = pure true := by rw [isSubtype_type]; kernel_rfl
theorem isn_str {k : Value} {dep : Int} {tk : Tok} {Q : Fin → Shared → Prop} (hk : k = .int dep tk) (hq : Q (.done (.ret (.bool true))) s) :
  wpAny (model prog w) A (Builtin.«issubclass.nested» ⟨[.type "str", .type "str", k], []⟩) Q E s := by
 subst hk
 have hm := F.isi_meta_str
 have hself := str_self
 repeat (any_goals (first | assumption | (rw [if_pos hm]) | (rw [hself]) | wp_step))
theorem isn_str_meets (dep : Int) (tk : Tok) : Meets (Builtin.«issubclass.nested» ⟨[.type "str", .type "str", .int dep tk], []⟩) (fun _ R s => R (.ok (.ret (.bool true))) s) :=
 .of_wp fun _ _ _ _ _ h => isn_str rfl ⟨_, rfl, h⟩
theorem code_meets {id : String} {B : Builtin} {args : List Value} {S : PySem.Spec} {R : Result → Shared → Prop} (kind : builtinKind id = none) (plain : plainId id = true)
  (entry : entryFor table id = some B) (ok : argsOk id ⟨args, []⟩) (g : Meets (B ⟨args, []⟩) S) (h : S A R s) : codeAny (model prog w) A (.call (.builtin id) ⟨args, []⟩) R s := by
 refine (codeAny_call_builtin plain entry ?_)
 have hfin := g prog w A R s h
 simp only [checkBuiltinCall, kind]
 cases hsig : Manifest.signature? id with
 | none => exact wpAny_pure hfin
 | some sig =>
  simp only [argsOk, hsig] at ok
  have h2 : Bind.checkArgs id sig ⟨args, []⟩ = pure () := ok
  show wpAny _ _ (Bind.checkArgs id sig ⟨args, []⟩) _ _ s
  rw [h2]; exact wpAny_pure hfin
theorem isn_tuple {tp : Addr} {tk : Tok} {s : Shared} {Q : Fin → Shared → Prop} (htp : s.heap.get? tp = some { cls := .type "tuple", data := .seq #[.type "str", .type "bytes"] })
  (hq : ∀ tk, Q (.done (.ret (.bool true))) { s with toks := tk }) : wpAny (model prog w) A (Builtin.«issubclass.nested» ⟨[.type "str", .ref tp, .int 0 tk], []⟩) Q E s := by
 obtain ⟨h, g, d, t, os⟩ := s
 have hT2 : (⟨h, g, d, t, os⟩ : Shared).TypeIs (.ref tp) "tuple" := ⟨_, htp, rfl⟩
 have f1 := F.isi_sub_tuple
 repeat (any_goals (first | assumption | wp_step))
 refine code_meets (A := A) kind_isn plain_isn F.entry_issubclass_nested (args_isn _ _ _) (isn_str_meets 1 _) ?_
 dsimp only
 repeat (any_goals (first | assumption | wp_step))
 exact hq _
theorem isSB_meets (tp : Addr) : Meets (Builtin.«issubclass» ⟨[.type "str", .ref tp], []⟩) (fun _ R s => s.heap.get? tp = some { cls := .type "tuple", data := .seq #[.type "str", .type "bytes"] } ∧ ∀ tk, R (.ok (.ret (.bool true))) { s with toks := tk }) :=
 fun _ _ _ _ _ hs => issubclass_outer (isn_tuple hs.1 fun tk => hs.2 tk)
end
section
variable {prog : Program} {w : World} {nm fn : Nat → Str} {FT : List FE} {base : Heap} {N : Nat} {A : Around} {fr : List Env} {env : Env} {sc : Scope} {W : Bool → Addr → Prop} {ρ : Rho} {s : Shared}
variable (am : Am prog w nm fn FT base N) {n : Nat} (ih : Sound prog w nm fn FT base N n)
include am ih
theorem ev_isSB (a : X) (p1 p2 p3 : Pos) (k : Nat) (p4 p : Pos) : EvOk prog w nm fn FT base N n (.isSB a p1 p2 p3 k p4 p) := by
 intro sc tp ρ v e A fr env W s st
 refine I.isSB e fun t h1 g1 g2 g3 => ?_
 show wpAny _ A (do callWith p (← eval (.Name "issubclass" p1) env) [] (backTo p (starEach [a.py nm fn, .Tuple [.Name "str" p2, .Name "bytes" p3] k p4] env)) (backToKw p (keywordEach [] env))) _ _ s
 refine wpAny_bind (am.hasSub.ld st g1 fun tk hn st0 => ?_)
 rw [star_py]
 refine callWith_builtin rfl (evalArgs_plain (spliced_cons (ih.k h1 st0 fun u h' tk' hn' k1 r1 st1 => ?_)))
 rw [isTy_of r1]
 refine spliced_cons (wpAny_Tuple (k := k) (spliced_cons (am.hasStr.ld st1 g2 fun tk2 hn2 st2 => spliced_cons (am.hasBy.ld st2 g3 fun tk3 hn3 _ => spliced_nil ⟨by decide, spliced_nil ?_⟩))))
 exact call_issubclass (isSB_meets _) ⟨Heap.get?_push_size _ rfl, fun tk => fin ⟨k1.trans (Kp.of fun _ _ e => Heap.get?_push_of_some _ e), .bool _⟩⟩
theorem ev_isB (a : X) (p1 p2 p : Pos) : EvOk prog w nm fn FT base N n (.isB a p1 p2 p) := by
 intro sc tp ρ v e A fr env W s st
 refine I.isB e fun x t h1 g1 g2 => ?_
 show wpAny _ A (do callWith p (← eval (.Name "isinstance" p1) env) [] (backTo p (starEach [a.py nm fn, .Name "bytes" p2] env)) (backToKw p (keywordEach [] env))) _ _ s
 refine wpAny_bind (am.hasIsi.ld st g1 fun tk hn st0 => ?_)
 rw [star_py]
 exact callWith_builtin rfl (evalArgs_plain (spliced_cons (ih.k h1 st0 fun u h' tk' hn' k1 r1 st1 => spliced_cons (am.hasBy.ld st1 g2 fun tk2 hn2 _ => spliced_nil (R.strE r1 fun t => IsiPair.str_bytes (fin ⟨k1, .bool _⟩))))))
theorem ev_bi (b : Bi) (fp : Pos) (as : XS) (p : Pos) : EvOk prog w nm fn FT base N n (.bi b fp as p) := by
 intro sc tp ρ v e A fr env W s st
 refine I.bi e fun vs d h1 g1 hl hd => ?_
 show wpAny _ A (do callWith p (← eval (.Name b.py fp) env) [] (backTo p (starEach (as.py nm fn) env)) (backToKw p (keywordEach [] env))) _ _ s
 refine wpAny_bind ((am.hasBi b).ld st g1 (fun tk hn st0 => ?_) (by cases b <;> rfl))
 have run : ∀ us h' tk', tk ≤ tk' → Kp (SS fr tp) s.heap h' → RVs prog w h' W us vs → St (prog := prog) (w := w) (nm := nm) A fr base N env sc W ρ (up s h' tk') → wpAny (model prog w) A (call b.val us) (OkP s (EvP prog w fr W tp s.heap (d, false))) (fun _ _ => False) (up s h' tk') := fun us h' tk' hn' k1 r1 st1 =>
  (bi_ok (W := W false) (s := up s h' tk') hd (r1.rl st1.wo true fun _ => rfl) st.cx.hd (fresh_no st1.wo false) fun a q y => st1.wo.new false q y).wp2 fun v h'' tk'' _ k2 r2 => fin ⟨k1.trans (Kp.of k2), r2⟩
 cases b
 all_goals first
  | exact callWith_builtin args_plain (args_ok ih h1 hl.1 st0 run)
  | exact PySem.callWith_type args_plain (args_ok ih h1 hl.1 st0 run)
theorem ev_call (f : Nat) (fp : Pos) (as : XS) (p : Pos) : EvOk prog w nm fn FT base N n (.call f fp as p) := by
 intro sc tp ρ v e A fr env W s st
 refine I.call e fun fe vs d hf h1 g1 g2 hl hd => ?_
 show wpAny _ A (do callWith p (← eval (.Name (fn f) fp) env) [] (backTo p (starEach (as.py nm fn) env)) (backToKw p (keywordEach [] env))) _ _ s
 refine wpAny_bind (am.fnE hf st g1 fun fa o fd tk hn st0 ho hod hN con => callWith_function (o := o) (fd := fd) (args_ok ih h1 hl.1 st0 fun us h' tk' hn' k1 r1 st1 => ⟨⟨st1.cx.stay _ _ ho, hod⟩, ?_⟩))
 have cx : Cx A fr base h' fe.need := ⟨st1.cx.hd, st1.cx.frs, st1.cx.stay, st1.cx.ff, Nat.le_trans (Nat.add_le_add_left hN _) st1.cx.dep, Nat.le_trans (Nat.add_le_add_right (Nat.add_le_add_left (Nat.mul_le_mul_left 16 hN) _) _) st1.cx.un, st1.cx.low⟩
 have hw : (∀ a, frA fr a → W (!untaint vs) a) ∧ ∀ a, W (!untaint vs) a → ∃ o, h'.get? a = some o := by
  cases untaint vs with
  | false => exact ⟨st1.wo.fr, fun a ha => st1.wo.al a (st1.wo.le a ha)⟩
  | true => exact ⟨fun a ha => st1.wo.le a (st1.wo.fr a ha), st1.wo.al⟩
 refine (con A fr (up s h' tk') cx st1.tk _ d hd (W (!untaint vs)) us hw.1 hw.2 (r1.rl st1.wo _ fun q => by rw [q]; rfl)).wp2 fun v h'' tk'' _ k2 r2 => fin (EvP.of (k1.trans (k2.sub fun a q => ⟨?_, q.2⟩)) r2)
 cases tp with
 | true => rfl
 | false => exact absurd q.1 (by rw [show fe.exact = true from g2]; exact Bool.false_ne_true)
theorem base_attr {o : X} (h : o.base = true) (name : Str) : attributeBase (o.py nm fn) name env (eval (o.py nm fn) env) = eval (o.py nm fn) env := by
 cases o <;> first | rfl | cases h
theorem ev_meth (m : Me) (o : X) (ap : Pos) (as : XS) (p : Pos) : EvOk prog w nm fn FT base N n (.meth m o ap as p) := by
 intro sc tp ρ v e A fr env W s st
 refine I.meth e fun x vs d h0 h1 g1 g2 hl hd => ?_
 refine wpAny_Call_method_lateS (base_attr am ih g2 _) ?_ g1 (ih.k h0 st fun u h' tk hn k1 r1 st1 => ?_)
 ·have := args_plain (nm := nm) (fn := fn) (env := env) (as := as) (p := p)
  rw [List.any_eq_false] at this
  simp only [Bool.and_eq_true, decide_eq_true_eq]
  refine ⟨⟨List.all_eq_true.mpr fun x hx => by have := this x hx; simpa using this, rfl⟩, ?_⟩
  rw [args_few h1]; have := hl.2; simp; omega
 ·obtain ⟨hT, hdn⟩ := me_self (s := up s h' tk) hd r1
  refine ⟨m.at.1, m.at.2, m.plain, m.slot, m.ty, hT, hdn, callWith_builtin args_plain (args_ok ih h1 hl.1 st1 fun us h'' tk' hn' k2 r2 st2 => ?_)⟩
  exact (me_ok (W := W (x.2 || !untaint vs)) (s := up s h'' tk') hd ((k2.R (st.wo.fr' tp x.2) r1).weak st2.wo _ _ fun q => by rw [q]; rfl) (r2.rl st2.wo _ fun q => by rw [q, Bool.not_false, Bool.or_true]) (fresh_no st2.wo _)).wp2 fun v h3 tk3 _ k3 r3 => fin (EvP.of ((k1.trans k2).trans (Kp.of k3)) r3)
end
end
section
theorem Kp.sameBut {S : Addr → Prop} {h h₁ h' : Heap} {D : Addr} (k : Kp S h h₁) (hs : Heap.SameBut D h₁ h') (hD : h.get? D = none) : Kp S h h' :=
 ⟨fun b o hS e => (hs.2 b fun q => by rw [q, hD] at e; cases e).trans (k.out b o hS e), fun b o e => by
  obtain ⟨sl, e'⟩ := k.all b o e
  exact ⟨sl, (hs.2 b fun q => by rw [q, hD] at e; cases e).trans e'⟩⟩
section
variable {prog : Program} {w : World} {nm fn : Nat → Str} {FT : List FE} {base : Heap} {N : Nat} {A : Around} {fr : List Env} {env : Env} {sc : Scope} {W : Bool → Addr → Prop} {ρ : Rho} {s : Shared}
theorem St.lift {M : Addr → Prop} {h' : Heap} {tk : Nat} (x : St (prog := prog) (w := w) (nm := nm) A fr base N env sc W ρ s) (keep : ∀ b o, s.heap.get? b = some o → h'.get? b = some o)
  (hM : ∀ a, M a → s.heap.get? a = none ∧ ∃ o, h'.get? a = some o) (htk : s.toks ≤ tk) :
  St (prog := prog) (w := w) (nm := nm) A fr base N env sc (fun t a => W t a ∨ M a) ρ (up s h' tk) where
 cx := x.cx.step (tp := false) (Kp.of keep)
 e := ⟨x.e.g, x.e.sc, let ⟨σ, a, b⟩ := x.e.fm; ⟨σ, a.step (S := fun _ => False) (Kp.of keep), fun i d t e => let ⟨q, u, c, r⟩ := b i d t e; ⟨q, u, c, r.mono (fun b o _ e => keep b o e) fun a q => q.elim .inl fun q => .inr (hM a q).1⟩⟩⟩
 wo := ⟨fun a q => .inl (x.wo.fr a q), fun a q => q.imp (x.wo.le a) id, fun a q => q.elim (fun q => let ⟨o, e⟩ := x.wo.al a q; ⟨o, keep a o e⟩) fun q => (hM a q).2⟩
 tk := Nat.le_trans x.tk htk
theorem St.low (x : St (prog := prog) (w := w) (nm := nm) A fr base N env sc W ρ s) : (s.heap.objs.size == sysModules) = false := by
 obtain ⟨b, o, q, e⟩ := x.cx.low
 exact beq_eq_false_iff_ne.mpr (Nat.ne_of_gt (Nat.lt_of_le_of_lt q (Heap.lt_size e)))
variable (am : Am prog w nm fn FT base N) {n : Nat} (ih : Sound prog w nm fn FT base N n)
include ih
theorem ev_dict (ks es : XS) (p : Pos) : EvOk prog w nm fn FT base N n (.dict ks es p) := by
 intro sc tp ρ v e A fr env W s st
 cases ks with
 | nil =>
  cases es with
  | nil =>
   refine someE e ?_
   show wpAny _ A (do standAt p; newDict) _ _ s
   exact wpAny_bind (wpAny_standAt (wpAny_newObj_type (fin ⟨Kp.of fun _ _ e => Heap.get?_push_of_some _ e, .dct (kvs := []) (st.wo.new false (push_none _)) st.low (Heap.DictOf.new _) rfl .nil⟩)))
  | cons => exact optE e
 | cons k0 ks0 =>
 refine I.dict e fun kvs h1 hg0 hg1 hg2 hg3 => ?_
 have hl := (ih.evP _ _ _ _ _ _ h1 A fr env W s p st).1
 refine wpAny_Dict_pairs (knd := strKind prog w) (prs_shape nm fn env p (.cons k0 ks0) es) (fun q => ?_) (Nat.le_trans (Nat.le_of_eq hl) hg0) ?_
 ·rw [q] at hl; exact absurd hg1 (by rw [← hl]; exact Nat.lt_irrefl _)
 have hD0 : s.heap.get? s.heap.objs.size = none := push_none _
 have hn := st.wo.new false hD0
 have st1 := st.lift (M := fun a => a = s.heap.objs.size) (h' := s.heap.push { cls := .type "dict", data := .dict #[] }) (tk := s.toks) (fun _ _ e => Heap.get?_push_of_some _ e) (fun a q => by rw [q]; exact ⟨hD0, _, Heap.get?_push_size _ rfl⟩) (Nat.le_refl _)
 refine (ih.evP _ _ _ _ _ _ h1 A fr env _ _ p st1).2.wp fun ps h' tk hn1 p1 => ?_
 have hd0 : h'.DictOf (strKind prog w) s.heap.objs.size [] := by
  obtain ⟨o, es, ep, ho, r⟩ := (Heap.DictOf.new (knd := strKind prog w) s.heap)
  exact ⟨o, es, ep, p1.1.out _ _ (fun q => hn (st.wo.fr' tp false _ q)) ho, r⟩
 refine display_done_str p1.2.1 (by rw [p1.2.2.1]; exact hg2) hd0 fun h'' hd hs => fin ⟨((Kp.of fun _ _ e => Heap.get?_push_of_some _ e).trans p1.1).sameBut hs hD0, .dct hn st.low hd p1.2.2.1.symm ?_⟩
 have := p1.2.2.2.rl (st1.step hn1 p1.1).wo false fun q => by rw [hg3] at q; cases q
 rw [List.map_map] at this
 exact this.mono (fun b o hb e => (hs.2 b fun q => hb (.inr q)).trans e) fun a q => .inl (.inl q)
end
end
section
noncomputable def Wk (prog : Program) (w : World) (A : Around) (I : Addr) (fp wr : List Addr) (ds : List D) (en : Bool) (h₀ : Heap) (W : Addr → Prop) (At : Nat → Heap → Prop) : Prop :=
 (∀ i h, At i h → ∀ b ∈ fp, ∃ o, h.get? b = some o) ∧
  ((en = false ∧ ∃ P, Walks prog w A I fp wr ds.length P At ∧ ∀ i v, P i v → ∃ d, ds[i]? = some d ∧ R prog w h₀ (fun a => W a ∨ a ∈ wr) v d) ∨
   (en = true ∧ ∃ P Mid, WalksT prog w A I fp wr ds.length P At Mid ∧
    ∀ i vals, P i vals → ∃ a b da db, vals = #[a, b] ∧ ds[i]? = some (.tup [da, db]) ∧ R prog w h₀ (fun a => W a ∨ a ∈ wr) a da ∧ R prog w h₀ (fun a => W a ∨ a ∈ wr) b db))
noncomputable def SrcOk (prog : Program) (w : World) (A : Around) (h₀ h : Heap) (W : Addr → Prop) (it : Value) (ds : List D) (en : Bool) : Prop :=
 ∃ I fp wr At, it = .ref I ∧ (∀ b ∈ wr, h₀.get? b = none) ∧ (∀ b ∈ fp, b ∈ wr ∨ ¬ W b) ∧ At 0 h ∧ Wk prog w A I fp wr ds en h W At
section
variable {prog : Program} {w : World} {nm fn : Nat → Str} {FT : List FE} {base : Heap} {N : Nat} {A : Around} {fr : List Env} {env : Env} {sc : Scope} {W : Bool → Addr → Prop} {ρ : Rho} {s : Shared}
@[elab_as_elim] theorem Wk.elim {I : Addr} {fp wr : List Addr} {ds : List D} {en : Bool} {h₀ : Heap} {W : Addr → Prop} {At : Nat → Heap → Prop} {m : Bool → Prop} (hw : Wk prog w A I fp wr ds en h₀ W At)
  (k1 : ∀ P, Walks prog w A I fp wr ds.length P At → (∀ i v d, P i v → ds[i]? = some d → R prog w h₀ (fun a => W a ∨ a ∈ wr) v d) → m false)
  (k2 : ∀ P Mid, WalksT prog w A I fp wr ds.length P At Mid → (∀ i vals d, P i vals → ds[i]? = some d → ∃ a b da db, vals = #[a, b] ∧ d = .tup [da, db] ∧ R prog w h₀ (fun a => W a ∨ a ∈ wr) a da ∧ R prog w h₀ (fun a => W a ∨ a ∈ wr) b db) → m true) : m en := by
 rcases hw.2 with ⟨rfl, P, a, b⟩ | ⟨rfl, P, Mid, a, b⟩
 ·refine k1 P a fun i v d hv hd => ?_
  obtain ⟨d', e, r⟩ := b i v hv
  rw [hd] at e; cases e; exact r
 ·refine k2 P Mid a fun i vals d hv hd => ?_
  obtain ⟨x, y, da, db, e1, e, r⟩ := b i vals hv
  rw [hd] at e
  exact ⟨x, y, da, db, e1, Option.some.inj e, r⟩
@[elab_as_elim] theorem Tg.oneE {m : Tg → Prop} {tg : Tg} (h : tg.two? = false) (k : ∀ i p, m (.one i p)) : m tg := by
 cases tg with
 | one => exact k _ _
 | two => exact absurd h Bool.noConfusion
@[elab_as_elim] theorem Tg.twoE {m : Tg → Prop} {tg : Tg} (h : tg.two? = true) (k : ∀ i p j q kk r, m (.two i p j q kk r)) : m tg := by
 cases tg with
 | two => exact k _ _ _ _ _ _
 | one => exact absurd h Bool.noConfusion
theorem rangeD_get (a b : Int) (i : Nat) (hi : i < (b - a).toNat) : (rangeD a b)[i]? = some (.int (a + i)) := by
 unfold rangeD; rw [List.getElem?_map, List.getElem?_range hi]; rfl
theorem rangeD_len (a b : Int) : (rangeD a b).length = (b - a).toNat := by unfold rangeD; rw [List.length_map, List.length_range]
theorem enumD_len : ∀ (ds : List D) (k : Nat), (enumD k ds).length = ds.length
 | [], _ => rfl
 | _ :: r, k => by show (enumD (k + 1) r).length + 1 = _; rw [enumD_len r]; rfl
theorem enumD_get : ∀ (ds : List D) (k i : Nat) (d : D), ds[i]? = some d → (enumD k ds)[i]? = some (.tup [.int ((k + i : Nat) : Int), d])
 | [], _, _, _, h => by simp at h
 | x :: r, k, 0, d, h => by simp at h; subst h; rfl
 | x :: r, k, i + 1, d, h => by
  have := enumD_get r (k + 1) i d (by simpa using h)
  show (enumD (k + 1) r)[i]? = _
  rw [this]
  congr 4
  all_goals omega
theorem srcOne {h : Heap} {I ax : Addr} {o : Obj} {Wt : Addr → Prop} {ds : List D} {P : Nat → Value → Prop} {St : Nat → Heap → Prop} {fp : List Addr} (hI : I = h.objs.size) (hfp : ∀ b ∈ fp, b = I ∨ (b = ax ∧ ¬ Wt b ∧ ∃ o, h.get? b = some o))
  (W0 : Walks prog w A I fp [I] ds.length P St) (st : St 0 (h.push o)) (hP : ∀ i v, P i v → ∃ d, ds[i]? = some d ∧ R prog w h Wt v d) (hal : ∀ i h, St i h → ∀ b ∈ fp, ∃ o, h.get? b = some o) : SrcOk prog w A h (h.push o) Wt (.ref I) ds false := by
 subst hI
 refine ⟨_, fp, _, St, rfl, fun b hb => ?_, fun b hb => ?_, st, hal, .inl ⟨rfl, P, W0, fun i v hv => ?_⟩⟩
 ·rw [List.mem_singleton.mp hb]; exact push_none _
 ·exact (hfp b hb).elim (fun q => .inl (List.mem_singleton.mpr q)) fun q => .inr q.2.1
 ·obtain ⟨d, e1, e2⟩ := hP i v hv
  exact ⟨d, e1, e2.mono (fun _ _ _ e => Heap.get?_push_of_some _ e) fun a q => q.imp id fun q => by rw [List.mem_singleton.mp q]; exact push_none _⟩
theorem mem1 {α : Type} {a b : α} {P : α → Prop} (h : b ∈ [a]) (k : P a) : P b := (List.mem_singleton.mp h) ▸ k
theorem mem2 {α : Type} {a b c : α} {P : α → Prop} (h : c ∈ [a, b]) (k : P a) (k' : P b) : P c := (List.mem_cons.mp h).elim (fun q => q ▸ k) fun q => mem1 q k'
theorem mem3 {α : Type} {a b c d : α} {P : α → Prop} (h : d ∈ [a, b, c]) (k : P a) (k' : P b) (k'' : P c) : P d := (List.mem_cons.mp h).elim (fun q => q ▸ k) fun q => mem2 q k' k''
theorem srcTwo {h : Heap} {ax : Addr} {o : Obj} {Wt : Addr → Prop} {ds : List D} {P : Nat → Value → Prop} {St : Nat → Heap → Prop} (hW : ¬ Wt ax) (ho : ∃ o, h.get? ax = some o) (W0 : Walks prog w A h.objs.size [h.objs.size, ax] [h.objs.size] ds.length P St) (st : St 0 (h.push o))
  (hP : ∀ i v, P i v → ∃ d, ds[i]? = some d ∧ R prog w h Wt v d) (hal : ∀ i h', St i h' → (∃ o, h'.get? h.objs.size = some o) ∧ ∃ o, h'.get? ax = some o) : SrcOk prog w A h (h.push o) Wt (.ref h.objs.size) ds false :=
 srcOne (ax := ax) rfl (fun _ hb => mem2 (P := fun b => b = h.objs.size ∨ (b = ax ∧ ¬ Wt b ∧ ∃ o, h.get? b = some o)) hb (.inl rfl) (.inr ⟨rfl, hW, ho⟩)) W0 st hP fun i h' st b hb => mem2 (P := fun b => ∃ o, h'.get? b = some o) hb (hal i h' st).1 (hal i h' st).2
theorem iter_ok {d : D} {ds : List D} {x : Value} (e : itemsD d = some ds) {Wt : Addr → Prop} (r : R prog w s.heap Wt x d) (hh : A.handled = none) :
  Ok (model prog w) A (pyIter x) s (fun it h' => (∀ b o, s.heap.get? b = some o → h'.get? b = some o) ∧ SrcOk prog w A s.heap h' Wt it ds false) := by
 revert r
 refine I.itemsE e (fun ds hz r => ?_) (fun ds hz r => ?_) (fun y hz r => ?_)
 ·refine R.lstE r fun a vs n hw hv rb => ?_
  have W0 := Walks.list (prog := prog) (w := w) (A := A) hh s.heap.objs.size a (Nat.ne_of_lt (Heap.lt_size hv)) vs.toArray
  rw [show vs.toArray.size = ds.length from List.size_toArray.trans rb.length] at W0
  exact wpAny_pyIter_list (isList_of_sq hv) (fin ⟨fun _ _ e => Heap.get?_push_of_some _ e, srcTwo hw ⟨_, hv⟩ W0 ⟨⟨_, Heap.get?_push_size _ rfl, rfl, rfl⟩, (isList_of_sq hv).push _⟩ (fun i v hv => rb.get' ((List.getElem?_toArray ..).symm.trans hv)) fun i h st => ⟨⟨_, st.1.choose_spec.1⟩, _, st.2.choose_spec.1⟩⟩)
 ·refine R.tupE r fun a vs n hw hv rb => ?_
  have W0 := Walks.tuple (prog := prog) (w := w) (A := A) hh s.heap.objs.size a (Nat.ne_of_lt (Heap.lt_size hv)) vs.toArray
  rw [show vs.toArray.size = ds.length from List.size_toArray.trans rb.length] at W0
  exact wpAny_pyIter_tuple (isTup_of_sq hv) (fin ⟨fun _ _ e => Heap.get?_push_of_some _ e, srcTwo hw ⟨_, hv⟩ W0 ⟨⟨_, Heap.get?_push_size _ rfl, rfl, rfl⟩, ⟨_, Heap.get?_push_of_some _ hv, rfl, n, rfl⟩⟩ (fun i v hv => rb.get' ((List.getElem?_toArray ..).symm.trans hv)) fun i h st => ⟨⟨_, st.1.choose_spec.1⟩, _, st.2.choose_spec.1⟩⟩)
 ·refine R.strE r fun t => ?_
  have hl : y.cps.size = (y.cps.toList.map fun c => D.str ⟨#[c]⟩).length := by rw [List.length_map, Array.length_toList]
  have hP : ∀ i v, SignAt y i v → ∃ d, (y.cps.toList.map fun c => D.str ⟨#[c]⟩)[i]? = some d ∧ R prog w s.heap Wt v d := fun i v hv => by
   obtain ⟨c, u, e1, rfl⟩ := hv
   exact ⟨.str ⟨#[c]⟩, by rw [List.getElem?_map, Array.getElem?_toList, e1]; rfl, .str _ _⟩
  have one : ∀ St : Nat → Heap → Prop, Walks prog w A s.heap.objs.size [s.heap.objs.size] [s.heap.objs.size] y.cps.size (SignAt y) St → ∀ o, St 0 (s.heap.push o) → (∀ i h, St i h → ∃ o, h.get? s.heap.objs.size = some o) → SrcOk prog w A s.heap (s.heap.push o) Wt (.ref s.heap.objs.size) (y.cps.toList.map fun c => D.str ⟨#[c]⟩) false := fun St W0 o st al =>
   srcOne (ax := 0) rfl (fun b hb => .inl (List.mem_singleton.mp hb)) (hl ▸ W0) st hP fun i h st b hb => mem1 (P := fun b => ∃ o, h.get? b = some o) hb (al i h st)
  cases ha : y.cps.all (· < 128)
  ·exact wpAny_pyIter_wide ha (fin ⟨fun _ _ e => Heap.get?_push_of_some _ e, one _ (Walks.strWide hh s.heap.objs.size y t) _ ⟨_, Heap.get?_push_size _ rfl, rfl, rfl⟩ fun i h st => ⟨_, st.choose_spec.1⟩⟩)
  ·exact wpAny_pyIter_ascii ha (fin ⟨fun _ _ e => Heap.get?_push_of_some _ e, one _ (Walks.strAscii hh s.heap.objs.size y t) _ ⟨_, Heap.get?_push_size _ rfl, rfl, rfl⟩ fun i h st => ⟨_, st.choose_spec.1⟩⟩)
theorem range_iter {r : Addr} {a b c : Int} {t u v : Tok} {ds : List D} {Wt : Addr → Prop} (hr : IsRange s.heap r a b c t u v) (hs : Builtin.Range.small a b c = true) (hl : (ds.length : Int) = Builtin.Range.rangeSize a b c)
  (hg : ∀ i : Nat, i < ds.length → ds[i]? = some (.int (a + i * c))) (hh : A.handled = none) :
  Ok (model prog w) A (pyIter (.ref r)) s (fun it h' => (∀ b o, s.heap.get? b = some o → h'.get? b = some o) ∧ SrcOk prog w A s.heap h' Wt it ds false) := by
 have W0 := (Walks.range (prog := prog) (w := w) (A := A) hh s.heap.objs.size a c ds.length).bound
 refine wpAny_pyIter_range hr hs (fin ⟨fun _ _ e => Heap.get?_push_of_some _ e, srcOne (ax := 0) rfl (fun b hb => .inl (List.mem_singleton.mp hb)) W0 ?_ (fun i v hv => ?_) (fun i h st b hb => mem1 (P := fun b => ∃ o, h.get? b = some o) hb ⟨_, st⟩)⟩)
 ·show IsRangeIter _ _ (a + ((0 : Nat) : Int) * c) ((ds.length : Int) - ((0 : Nat) : Int)) c
  rw [show a + ((0 : Nat) : Int) * c = a from by simp, show (ds.length : Int) - ((0 : Nat) : Int) = Builtin.Range.rangeSize a b c from by rw [← hl]; simp]
  exact Heap.get?_push_size _ rfl
 ·obtain ⟨hi, t, rfl⟩ := hv
  exact ⟨_, hg i hi, .int _ _⟩
theorem enum_ok {l : Addr} {us : List Value} {m : Nat} {ds : List D} {Wt : Addr → Prop} (hl : s.heap.get? l = some (sq "list" us m)) (hW : ¬ Wt l) (rb : RL prog w s.heap Wt us ds) (hh : A.handled = none) :
  Ok (model prog w) A (call (.type "enumerate") [.ref l]) s (fun x h' => ∀ tk, Ok (model prog w) A (pyIter x) (up s h' tk) (fun it h'' => (∀ b o, s.heap.get? b = some o → h''.get? b = some o) ∧ SrcOk prog w A s.heap h'' Wt it (enumD 0 ds) true)) := by
 refine call_enumerate_list (isList_of_sq hl) fun h' he hi hsz hk => fin fun tk => ?_
 have hlt : l < s.heap.objs.size := Heap.lt_size hl
 have W0 := WalksT.enumerate (prog := prog) (w := w) (A := A) hh (s.heap.objs.size + 1) s.heap.objs.size l (Nat.succ_ne_self _) (Nat.ne_of_lt (Nat.lt_succ_of_lt hlt)) (Nat.ne_of_lt hlt) us.toArray
 rw [show us.toArray.size = (enumD 0 ds).length from (List.size_toArray.trans rb.length).trans (enumD_len ds 0).symm] at W0
 have n1 : s.heap.get? (s.heap.objs.size + 1) = none := Heap.get?_none_of_le (Nat.le_succ _)
 have n2 := push_none s.heap
 refine wpAny_pyIter_enum he (fin ⟨hk, s.heap.objs.size + 1, [s.heap.objs.size + 1, s.heap.objs.size, l], [s.heap.objs.size + 1, s.heap.objs.size], _, rfl, fun b hb => mem2 (P := fun b => s.heap.get? b = none) hb n1 n2, fun b hb => ?_, ⟨⟨_, he⟩, hi, (isList_of_sq hl).at fun o e => hk _ _ e⟩,
  fun i h st b hb => mem3 (P := fun b => ∃ o, h.get? b = some o) hb ⟨_, st.1.choose_spec⟩ ⟨_, st.2.1.choose_spec.1⟩ ⟨_, st.2.2.choose_spec.1⟩, .inr ⟨rfl, _, _, W0, fun i vals hv => ?_⟩⟩)
 ·exact mem3 (P := fun b => b ∈ [s.heap.objs.size + 1, s.heap.objs.size] ∨ ¬ Wt b) hb (.inl List.mem_cons_self) (.inl (List.mem_cons_of_mem _ List.mem_cons_self)) (.inr hW)
 ·obtain ⟨t, x, hx, rfl⟩ := hv
  obtain ⟨d, e1, e2⟩ := rb.get' (k := i) (v := x) ((List.getElem?_toArray ..).symm.trans hx)
  exact ⟨_, _, .int i, d, rfl, by have := enumD_get ds 0 i d e1; rwa [Nat.zero_add] at this, .int _ _, e2.mono (fun b o _ e => hk b o e) fun a q => q.imp id fun q => mem2 (P := fun b => s.heap.get? b = none) q n1 n2⟩
theorem SrcOk.sub {h₀ h₁ h : Heap} {Wt : Addr → Prop} {it : Value} {ds : List D} {en : Bool} (x : SrcOk prog w A h₁ h Wt it ds en) (k : ∀ a, h₁.get? a = none → h₀.get? a = none) : SrcOk prog w A h₀ h Wt it ds en := by
 obtain ⟨I, fp, wr, At, e, a, b⟩ := x
 exact ⟨I, fp, wr, At, e, fun c hc => k c (a c hc), b⟩
theorem small_up {a b : Int} (ha : a.natAbs < 1000) (hb : b.natAbs < 1000) : Builtin.Range.small a b 1 = true := small_one (by omega) (by omega) (by omega) (by omega)
theorem len_up (a b : Int) : ((rangeD a b).length : Int) = Builtin.Range.rangeSize a b 1 := by rw [rangeD_len, rangeSize_one]; split <;> omega
theorem get_up (a b : Int) (i : Nat) (hi : i < (rangeD a b).length) : (rangeD a b)[i]? = some (.int (a + i * 1)) := by rw [rangeD_len] at hi; rw [rangeD_get _ _ _ hi, Int.mul_one]
theorem range_made {h₀ h : Heap} {a b c : Int} {t u v : Tok} {tk₀ : Nat} {ds : List D} {S : Addr → Prop} {Wt : Addr → Prop} (k : Kp S h₀ h) (hs : Builtin.Range.small a b c = true) (hl : (ds.length : Int) = Builtin.Range.rangeSize a b c)
  (hg : ∀ i : Nat, i < ds.length → ds[i]? = some (.int (a + i * c))) (hh : A.handled = none) {P : Value → Heap → Prop} (hP : P = fun x h' => ∀ tk, tk₀ ≤ tk → Ok (model prog w) A (pyIter x) (up s h' tk) (fun it h'' => Kp S h₀ h'' ∧ SrcOk prog w A h₀ h'' Wt it ds false)) :
  P (.ref h.objs.size) (h.push { cls := .type "range", data := .fields #[.int a t, .int b u, .int c v] }) := by
 rw [hP]
 intro tk _
 refine (range_iter (s := up s (h.push _) tk) (Heap.get?_push_size _ rfl) hs hl hg hh).mono fun it h'' q => ⟨(k.trans (Kp.of fun _ _ e => Heap.get?_push_of_some _ e)).trans (Kp.of q.1), q.2.sub fun c e => k.alive ?_⟩
 cases q : h.get? c with
 | none => rfl
 | some o => rw [Heap.get?_push_of_some _ q] at e; cases e
@[elab_as_elim] theorem srcCases (nm fn : Nat → Str) (FT : List FE) {P : X → Prop} (h1 : ∀ fp as p, P (.bi .range fp as p)) (h2 : ∀ fp as p, P (.bi .enumerate fp as p)) (h3 : ∀ e, (∀ n sc tp ρ, evSrc nm fn FT (n + 1) sc e tp ρ = srcOf (ev nm fn FT n sc e tp ρ)) → P e) (e : X) : P e := by
 cases e with
 | bi b fp as p => cases b with
  | range => exact h1 _ _ _
  | enumerate => exact h2 _ _ _
  | _ => exact h3 _ fun _ _ _ _ => rfl
 | _ => exact h3 _ fun _ _ _ _ => rfl
variable (am : Am prog w nm fn FT base N) {n : Nat} (ih : Sound prog w nm fn FT base N n)
include am ih
theorem nameOk {tp : Bool} {b : Bi} {fp p : Pos} {as : XS} {vs : List V} (st : St (prog := prog) (w := w) (nm := nm) A fr base N env sc W ρ s) (hg : isG sc b.py = true) (h1 : evs nm fn FT n sc as tp ρ = some vs) (hpos : 0 < vs.length) {T : String} (hT : b.val = .type T) {P : Value → Heap → Prop}
  (h : ∀ us h' tk, s.toks ≤ tk → Kp (SS fr tp) s.heap h' → RVs prog w h' W us vs → Ok (model prog w) A (call (.type T) us) (up s h' tk) P) : Ok (model prog w) A (eval (.Call (.Name b.py fp) (as.py nm fn) [] p) env) s P := by
 show wpAny _ A (do callWith p (← eval (.Name b.py fp) env) [] (backTo p (starEach (as.py nm fn) env)) (backToKw p (keywordEach [] env))) _ _ s
 refine wpAny_bind ((am.hasBi b).ld st hg (fun tk hn st0 => ?_) (by cases b <;> rfl))
 rw [hT]
 exact PySem.callWith_type args_plain (args_ok ih h1 hpos st0 fun us h' tk' hn' k1 r1 _ => (h us h' tk' (Nat.le_trans hn hn') k1 r1).wp fun v h3 tk3 _ p3 => fin p3)
theorem sound_src : ∀ sc e tp ρ ds t en, evSrc nm fn FT (n + 1) sc e tp ρ = some (ds, t, en) → ∀ A fr env W s, St (prog := prog) (w := w) (nm := nm) A fr base N env sc W ρ s →
  Ok (model prog w) A (eval (e.py nm fn) env) s (fun x h' => ∀ tk, s.toks ≤ tk → Ok (model prog w) A (pyIter x) (up s h' tk) (fun it h'' => Kp (SS fr tp) s.heap h'' ∧ SrcOk prog w A s.heap h'' (W t) it ds en)) := by
 intro sc e tp ρ ds t en he A fr env W s st
 revert he
 refine srcCases nm fn FT (fun fp as p he => ?_) (fun fp as p he => ?_) (fun e hd he => ?_) e
 ·refine I.bL he fun vs h1 he => ?_
  revert h1
  refine I.rangeE he (fun a ta hg ha h1 => ?_) (fun a ta b tb hg hab h1 => ?_)
  ·exact nameOk am ih (b := .range) st hg h1 (Nat.succ_pos _) rfl fun us h' tk hn k1 r1 => r1.one fun u r1 => R.intE r1 fun ta => call_range_1 (fin (range_made k1 (small_up (by decide) ha) (len_up _ _) (get_up _ _) st.cx.hd rfl))
  ·exact nameOk am ih (b := .range) st hg h1 (Nat.succ_pos _) rfl fun us h' tk hn k1 r1 => r1.two fun u v r1 r2 => R.intE r1 fun ta => R.intE r2 fun tb => call_range_2 (fin (range_made k1 (small_up hab.1 hab.2) (len_up _ _) (get_up _ _) st.cx.hd rfl))
 ·refine I.bL he fun vs h1 he => ?_
  revert h1
  refine I.enumE he fun ds t hg h1 => ?_
  refine nameOk am ih (b := .enumerate) st hg h1 (Nat.succ_pos _) rfl fun us h' tk hn k1 r1 => r1.one fun u r1 => R.lstE r1 fun l us m hw hv rb => ?_
  exact (enum_ok (s := up s h' tk) hv hw rb st.cx.hd).mono fun x h'' q tk2 hn2 => (q tk2).mono fun it h3 q => ⟨k1.trans (Kp.of q.1), q.2.sub fun c e => k1.alive e⟩
 ·rw [hd] at he
  refine I.srcE he fun d t' h1 hi e2 hat => ih.k h1 st fun x h' tk hn k1 r1 _ => fin fun tk hn => ?_
  have r2 : R prog w h' (W t) x d := hat.elim (fun ha => r1.of_atom ha) fun q => q ▸ r1
  rw [e2]
  exact (iter_ok (s := up s h' tk) hi r2 st.cx.hd).mono fun it h'' q => ⟨k1.trans (Kp.of q.1), q.2.sub fun a e => k1.alive e⟩
end
end
section
section
variable {prog : Program} {w : World} {nm fn : Nat → Str} {FT : List FE} {base : Heap} {N : Nat} {A : Around} {fr : List Env} {env : Env} {sc : Scope} {W : Bool → Addr → Prop} {ρ : Rho} {s : Shared}
theorem cell_ne_ns {h : Heap} {c L : Addr} {v : Option Value} {m : Str → Option Value} (hc : h.IsCell c v) (hn : h.Ns L m) : c ≠ L := by
 rintro rfl
 obtain ⟨o, ho, hd⟩ := hc
 obtain ⟨o', es, ep, ho', hd', _⟩ := hn
 rw [ho] at ho'; cases ho'
 rw [hd] at hd'; cases hd'
theorem Fm.alive' {h : Heap} {σ : Str → Option Value} (f : Fm env h σ) {a : Addr} (ha : Fm.all env a) : ∃ o, h.get? a = some o := by
 rcases ha with rfl | ⟨x, hk, hc⟩
 ·obtain ⟨m, ⟨o, _, _, ho, _⟩, _⟩ := f.ns; exact ⟨o, ho⟩
 ·obtain ⟨c, hc', o, ho, _⟩ := f.cell x hk
  rw [hc] at hc'; cases hc'; exact ⟨o, ho⟩
theorem Fm.alive {h : Heap} {σ : Str → Option Value} (f : Fm env h σ) {T : Str → Prop} {a : Addr} (ha : Fm.at env T a) : ∃ o, h.get? a = some o :=
 f.alive' (ha.imp id fun ⟨x, _, hk, hc⟩ => ⟨x, .inl hk, hc⟩)
theorem Fm.keep {h h' : Heap} {σ : Str → Option Value} (f : Fm env h σ) (k : ∀ a o, Fm.all env a → h.get? a = some o → h'.get? a = some o) : Fm env h' σ := by
 refine ⟨?_, fun x hx => ?_, f.inj⟩
 ·obtain ⟨m, hn, hm⟩ := f.ns
  exact ⟨m, hn.at' fun o e => k _ o (.inl rfl) e, hm⟩
 ·obtain ⟨c, hc, o, ho, hd⟩ := f.cell x hx
  exact ⟨c, hc, o, k c o (.inr ⟨x, hx, hc⟩) ho, hd⟩
theorem store_ok {x : Str} {v : Value} {σ : Str → Option Value} {T : Str → Prop} (hT : T x) (g : EnvG env) (f : Fm env s.heap σ) (hk : env.kindOf x = some .local ∨ env.kindOf x = some .cell) :
  Ok (model prog w) A (storeName env x v) s (fun _ h' => Fm env h' (fun y => if y = x then some v else σ y) ∧ ∀ b o, ¬ Fm.at env T b → s.heap.get? b = some o → h'.get? b = some o) := by
 obtain ⟨m, hn, hm⟩ := f.ns
 rcases hk with hk | hk
 ·refine wpAny_storeName_local hk hn (fun h' hn' hs => ⟨_, _, rfl, ⟨⟨_, hn', fun y hy => ?_⟩, fun y hy => ?_, f.inj⟩, fun b o hb e => (hs.2 b fun q => hb (.inl q)).trans e⟩) (by rw [g.kind]; rfl)
  ·split
   ·rfl
   ·exact hm y hy
  ·obtain ⟨c, hc, hv⟩ := f.cell y hy
   have hne : y ≠ x := by rintro rfl; rcases hy with q | q <;> rw [hk] at q <;> cases q
   refine ⟨c, hc, ?_⟩
   rw [if_neg hne]
   obtain ⟨o, ho, hd⟩ := hv
   exact ⟨o, (hs.2 c (cell_ne_ns ⟨o, ho, hd⟩ hn)).trans ho, hd⟩
 ·obtain ⟨c, hc, hv⟩ := f.cell x (.inl hk)
  refine wpAny_storeName_cell g.kind hk hc hv fun h' hc' hs => ⟨_, _, rfl, ⟨⟨m, hn.sameBut hs fun e => cell_ne_ns hv hn e.symm, fun y hy => ?_⟩, fun y hy => ?_, f.inj⟩, fun b o hb e => (hs.2 b fun q => hb (.inr ⟨x, hT, hk, q ▸ hc⟩)).trans e⟩
  ·have hne : y ≠ x := by rintro rfl; rw [hk] at hy; cases hy
   rw [if_neg hne]; exact hm y hy
  ·obtain ⟨c', hc2, hv2⟩ := f.cell y hy
   by_cases he : y = x
   ·subst he
    rw [if_pos rfl]
    exact ⟨c, hc, hc'⟩
   ·refine ⟨c', hc2, ?_⟩
    rw [if_neg he]
    obtain ⟨o, ho, hd⟩ := hv2
    refine ⟨o, (hs.2 c' fun q => he ?_).trans ho, hd⟩
    exact (f.inj x y c hk hy hc (q ▸ hc2)).symm
theorem putOk_kind {x : Str} (hs : env.scope = sc) (h : putOk sc x = true) : env.kindOf x = some .local ∨ env.kindOf x = some .cell := by
 unfold putOk at h
 rw [Bool.or_eq_true, beq_iff_eq, beq_iff_eq] at h
 unfold Env.kindOf; rw [hs]; exact h
theorem putOk_seen {x : Str} (hs : env.scope = sc) (h : putOk sc x = true) : seenK (env.kindOf x) := (putOk_kind hs h).elim .inl fun q => .inr (.inl q)
noncomputable def TgVal (prog : Program) (w : World) (h : Heap) (Wt : Addr → Prop) (v : Value) (d : D) : Tg → Prop
 | .one .. => R prog w h Wt v d
 | .two .. => ∃ T a b da db, v = .ref T ∧ d = .tup [da, db] ∧ h.IsTuple T #[a, b] ∧ R prog w h Wt a da ∧ R prog w h Wt b db
theorem EOk.keep {h h' : Heap} (e : EOk prog w nm env sc h W ρ) (kf : ∀ a o, Fm.all env a → h.get? a = some o → h'.get? a = some o) (kw : ∀ t b o, ¬ W t b → h.get? b = some o → h'.get? b = some o) : EOk prog w nm env sc h' W ρ :=
 ⟨e.g, e.sc, let ⟨σ, f, m⟩ := e.fm; ⟨σ, f.keep kf, fun i d t hi => let ⟨a, u, b, r⟩ := m i d t hi; ⟨a, u, b, r.mono (fun b o hb eb => kw t b o hb eb) fun a q => .inl q⟩⟩⟩
theorem bind1 {T : Str → Prop} {i : Nat} {d : D} {t : Bool} {v : Value} (inj : ∀ i j, nm i = nm j → i = j) (e : EOk prog w nm env sc s.heap W ρ) (pk : putOk sc (nm i) = true ∧ T (nm i)) (fmW : ∀ t a, Fm.at env T a → W t a) (hv : R prog w s.heap (W t) v d) :
  Ok (model prog w) A (storeName env (nm i) v) s (fun _ h' => EOk prog w nm env sc h' W (fun k => if k = i then some (itV d t) else ρ k) ∧ ∀ b o, ¬ Fm.at env T b → s.heap.get? b = some o → h'.get? b = some o) := by
 obtain ⟨σ, f, m⟩ := e.fm
 refine (store_ok (T := T) pk.2 e.g f (putOk_kind e.sc pk.1)).mono fun _ h' q => ⟨⟨e.g, e.sc, _, q.1, fun k d' t' hk => ?_⟩, q.2⟩
 have up : ∀ {t : Bool} {u : Value} {d : D}, R prog w s.heap (W t) u d → R prog w h' (W t) u d := fun {t u d} r => r.mono (fun b o hb eb => q.2 b o (fun z => hb (fmW t b z)) eb) fun a z => .inl z
 replace hk : (if k = i then some (itV d t) else ρ k) = some (d', t') := hk
 by_cases hki : k = i
 ·rw [if_pos hki] at hk
  rw [hki]
  refine ⟨putOk_seen e.sc pk.1, v, if_pos rfl, ?_⟩
  have r := (up hv).itV
  rw [Option.some.inj hk] at r
  exact r
 ·rw [if_neg hki] at hk
  obtain ⟨a1, u, a2, a3⟩ := m k d' t' hk
  exact ⟨a1, u, (if_neg fun z => hki (inj _ _ z)).trans a2, up a3⟩
theorem bind_ok {T : Str → Prop} {tg : Tg} {d : D} {t : Bool} {ρ' : Rho} {v : Value} (inj : ∀ i j, nm i = nm j → i = j) (hb : bindTg tg (itV d t) ρ = some ρ') (e : EOk prog w nm env sc s.heap W ρ)
  (hh : A.handled = none) (put : ∀ k ∈ tgVars tg, putOk sc (nm k) = true ∧ T (nm k)) (fmW : ∀ a, Fm.at env T a → W true a) (le : ∀ a, W true a → W false a)
  (hv : TgVal prog w s.heap (W t) v d tg) :
  Ok (model prog w) A (assign (tg.py nm) env v) s (fun _ h' => EOk prog w nm env sc h' W ρ' ∧ ∀ b o, ¬ Fm.at env T b → s.heap.get? b = some o → h'.get? b = some o) := by
 have fmW' : ∀ t a, Fm.at env T a → W t a := fun t a q => by
  cases t
  ·exact le a (fmW a q)
  ·exact fmW a q
 cases tg with
 | one i p => exact someE hb (wpAny_assign_Name (bind1 inj e (put i List.mem_cons_self) fmW' hv))
 | two i p j q k r =>
  obtain ⟨tp, a, b, da, db, rfl, rfl, hT, ra, rb⟩ := hv
  have hit : itV (.tup [da, db]) t = (.tup [da, db], t) := by unfold itV; cases t <;> rfl
  rw [hit] at hb
  refine someE hb (wpAny_assign_Tuple hh hT rfl rfl fun h₁ he₁ => ?_)
  have up₁ : ∀ c o, s.heap.get? c = some o → h₁.get? c = some o := fun c o e => he₁ c o (Nat.ne_of_lt (Heap.lt_size e)) e
  have up1 : ∀ {u : Value} {d : D}, R prog w s.heap (W t) u d → R prog w h₁ (W t) u d := fun r => r.mono (fun b o _ eb => up₁ b o eb) fun a z => .inl z
  show wpAny _ _ (assignInOrder [assign (.Name (nm i) p) env, assign (.Name (nm j) q) env] [a, b]) _ _ _
  refine assignInOrder_cons (wpAny_assign_Name ((bind1 (s := { s with heap := h₁ }) inj (e.keep (fun a o _ e => up₁ a o e) fun _ b o _ e => up₁ b o e) (put i List.mem_cons_self) fmW' (up1 ra)).wp2 fun _ h2 tk2 hn2 e2 k2 => ?_))
  exact assignInOrder_cons (wpAny_assign_Name ((bind1 (s := up s h2 tk2) inj e2 (put j (List.mem_cons_of_mem _ List.mem_cons_self)) fmW' ((up1 rb).mono (fun b o hb eb => k2 b o (fun z => hb (fmW' t b z)) eb) fun a z => .inl z)).wp2 fun _ h3 tk3 hn3 e3 k3 =>
   assignInOrder_nil ⟨_, _, rfl, e3, fun b o hb e => k3 b o hb (k2 b o hb (up₁ b o e))⟩))
end
end
section
section
variable {prog : Program} {w : World} {nm fn : Nat → Str} {FT : List FE} {base : Heap} {N : Nat} {A : Around} {fr : List Env} {env : Env} {sc : Scope} {W : Bool → Addr → Prop} {ρ : Rho} {s : Shared}
theorem self_ok {I : Addr} {fp wr : List Addr} {ds : List D} {en : Bool} {h₀ : Heap} {Wt : Addr → Prop} {At : Nat → Heap → Prop}
  (hw : Wk prog w A I fp wr ds en h₀ Wt At) {i : Nat} (hat : At i s.heap) {Q : Value → Shared → Prop} {E : Value → Shared → Prop} (h : Q (.ref I) s) : wpAny (model prog w) A (pyIter (.ref I)) Q E s :=
 hw.elim (fun _ W0 _ => W0.self i s _ _ hat h) fun _ _ W0 _ => W0.self i s _ _ hat h
theorem Wk.frame {I : Addr} {fp wr : List Addr} {ds : List D} {en : Bool} {h₀ : Heap} {Wt : Addr → Prop} {At : Nat → Heap → Prop}
  (hw : Wk prog w A I fp wr ds en h₀ Wt At) {i : Nat} {h h' : Heap} (hat : At i h) (hk : ∀ b ∈ fp, ∀ o, h.get? b = some o → h'.get? b = some o) : At i h' :=
 hw.elim (fun _ W0 _ => W0.frame i h h' hat hk) fun _ _ W0 _ => W0.frame i h h' hat hk
theorem Wk.sub {I : Addr} {fp wr : List Addr} {ds : List D} {en : Bool} {h₀ : Heap} {Wt : Addr → Prop} {At : Nat → Heap → Prop}
  (hw : Wk prog w A I fp wr ds en h₀ Wt At) : ∀ b ∈ wr, b ∈ fp :=
 hw.elim (fun _ W0 _ => W0.sub) fun _ _ W0 _ => W0.sub
theorem done_ok {I : Addr} {fp wr : List Addr} {ds : List D} {en : Bool} {h₀ : Heap} {Wt : Addr → Prop} {At : Nat → Heap → Prop}
  (hw : Wk prog w A I fp wr ds en h₀ Wt At) (hat : At ds.length s.heap) {Q : Option Value → Shared → Prop} {E : Value → Shared → Prop}
  (h : ∀ h' tk, s.toks ≤ tk → (∀ b o, b ∉ wr → s.heap.get? b = some o → h'.get? b = some o) → Q none (up s h' tk)) : wpAny (model prog w) A (pyNext (.ref I)) Q E s :=
 tokK (hw.elim (fun _ W0 _ => W0.done s _ _ hat fun h' tk hk hn => h h' tk hn hk) fun _ _ W0 _ => W0.done s _ _ hat fun h' tk hk hn => h h' tk hn hk)
theorem next_ok {T : Str → Prop} {I : Addr} {fp wr : List Addr} {ds : List D} {en : Bool} {h₀ : Heap} {Wt : Addr → Prop} {At : Nat → Heap → Prop} {i : Nat} {d : D} {tg : Tg} {ρ' : Rho} {t : Bool}
  (hw : Wk prog w A I fp wr ds en h₀ Wt At) (hat : At i s.heap) (hi : ds[i]? = some d) (inj : ∀ i j, nm i = nm j → i = j) (hb : bindTg tg (itV d t) ρ = some ρ') (e : EOk prog w nm env sc s.heap W ρ)
  (hh : A.handled = none) (put : ∀ k ∈ tgVars tg, putOk sc (nm k) = true ∧ T (nm k)) (fmW : ∀ a, Fm.at env T a → W true a) (le : ∀ a, W true a → W false a) (two : tg.two? = en)
  (wrW : ∀ a ∈ wr, W true a) (fpF : ∀ b ∈ fp, ¬ Fm.at env T b) (wrF : ∀ b ∈ wr, ¬ Fm.all env b) (hWt : ∀ a, W t a → Wt a ∨ a ∈ wr ∨ h₀.get? a = none)
  (kp : ∀ b o, ¬ W t b → h₀.get? b = some o → s.heap.get? b = some o) {E : Value → Shared → Prop} {QQ : Option Value → Shared → Prop} {Q : Unit → Shared → Prop}
  (hfin : ∀ v s₁, wpAny (model prog w) A (letOwnedTupleGo (tg.py nm) (.ref I) v) (fun _ s₂ => wpAny (model prog w) A (assign (tg.py nm) env v) Q E s₂) E s₁ → QQ (some v) s₁)
  (hQ : ∀ h' tk, s.toks ≤ tk → At (i + 1) h' → EOk prog w nm env sc h' W ρ' → (∀ b o, b ∉ wr → ¬ Fm.at env T b → s.heap.get? b = some o → h'.get? b = some o) → Q () (up s h' tk)) :
  wpAny (model prog w) A (pyNext (.ref I)) QQ E s := by
 have hlt : i < ds.length := (List.getElem?_eq_some_iff.mp hi).1
 have wrW' : ∀ t a, a ∈ wr → W t a := fun t a q => by
  cases t
  ·exact le a (wrW a q)
  ·exact wrW a q
 have old : ∀ b o, h₀.get? b = some o → ¬ (Wt b ∨ b ∈ wr) → ¬ W t b := fun b o e1 h q => (hWt b q).elim (fun z => h (.inl z)) fun z => z.elim (fun z => h (.inr z)) fun z => by rw [e1] at z; cases z
 have lift : ∀ {h' : Heap} {v : Value} {d : D}, (∀ b o, b ∉ wr → s.heap.get? b = some o → h'.get? b = some o) → R prog w h₀ (fun a => Wt a ∨ a ∈ wr) v d → R prog w h' (W t) v d := fun {h' v d} hk r =>
  r.mono (fun b o hb eb => hk b o (fun z => hb (.inr z)) (kp b o (old b o eb hb) eb)) fun a z => (hWt a z).elim (fun q => .inl (.inl q)) fun q => q.elim (fun q => .inl (.inr q)) .inr
 have fin : ∀ (h' : Heap) (tk : Nat) v, s.toks ≤ tk → At (i + 1) h' → (∀ b o, b ∉ wr → s.heap.get? b = some o → h'.get? b = some o) → TgVal prog w h' (W t) v d tg → wpAny (model prog w) A (assign (tg.py nm) env v) Q E (up s h' tk) := fun h' tk v hn hat' hk hv =>
  (bind_ok (T := T) (s := up s h' tk) (t := t) inj hb (e.keep (fun a o q ea => hk a o (fun z => wrF a z q) ea) fun t b o hb eb => hk b o (fun z => hb (wrW' t b z)) eb) hh put fmW le hv).wp2 fun _ h2 tk2 hn2 e2 k2 =>
   hQ h2 tk2 (Nat.le_trans hn hn2) (hw.frame hat' fun b hb o eb => k2 b o (fpF b hb) eb) e2 fun b o hb1 hb2 eb => k2 b o hb2 (hk b o hb1 eb)
 refine tokK ?_
 revert two fin
 refine hw.elim (fun P W0 hP two fin => ?_) (fun P Mid W0 hP two fin => ?_)
 ·revert fin hfin
  exact Tg.oneE two fun k p hfin fin => W0.item i s _ _ hlt hat fun v h₁ tk₁ hPv hat₁ hk₁ hn => hfin v _ (wpAny_of_eq (a := ()) rfl (fin _ _ v hn hat₁ hk₁ (lift hk₁ (hP i v d hPv hi))))
 ·revert fin hfin
  refine Tg.twoE two fun k p j q kk r hfin fin => W0.item i s _ _ hlt hat fun tp vals h₁ tk₁ hPv hTs hT hmid hk₁ hn => hfin (.ref tp) _ ?_
  obtain ⟨a, b, da, db, rfl, hd, ra, rb⟩ := hP i vals d hPv hi
  refine W0.go _ _ _ i tp _ _ _ hmid fun h₂ hat₂ hk₂ => ?_
  have hk12 : ∀ b o, b ∉ wr → s.heap.get? b = some o → h₂.get? b = some o := fun b o hb eb => hk₂ b o hb (hk₁ b o hb eb)
  have hT2 : h₂.IsTuple tp #[a, b] := by
   obtain ⟨o, ho, hc, n, hd⟩ := hT
   exact ⟨o, hk₂ tp o (W0.apart i tp _ hmid) ho, hc, n, hd⟩
  exact fin h₂ tk₁ _ hn hat₂ hk12 ⟨tp, a, b, da, db, rfl, hd, hT2, lift hk12 ra, lift hk12 rb⟩
end
end
section
theorem mem_lookup {α : Type} : ∀ {l : List (Str × α)} {x : Str} {v : α}, (l.map (·.1)).Nodup → (x, v) ∈ l → l.lookup x = some v
 | (n, u) :: r, x, v, hd, hm => by
  rw [List.map_cons, List.nodup_cons] at hd
  rw [List.lookup_cons]
  rcases List.mem_cons.mp hm with e | hm2
  ·have e1 : x = n := congrArg Prod.fst e
   have e2 : v = u := congrArg Prod.snd e
   subst e1 e2; rw [beq_self_eq_true]
  ·have hne : x ≠ n := by rintro rfl; exact hd.1 (List.mem_map.mpr ⟨_, hm2, rfl⟩)
   rw [beq_eq_false_iff_ne.mpr hne]
   exact mem_lookup hd.2 hm2
theorem lookup_mapk (f : Str → NameKind → NameKind) (x : Str) : ∀ l : List (Str × NameKind), (l.map fun p => (p.1, f p.1 p.2)).lookup x = (l.lookup x).map (f x)
 | [] => rfl
 | (n, k) :: r => by
  rw [List.map_cons, List.lookup_cons, List.lookup_cons]
  cases h : x == n with
  | true => rw [eq_of_beq h]; rfl
  | false => exact lookup_mapk f x r
theorem rel_lookup (sc sc' : Scope) (x : Str) : (rel sc sc').names.lookup x = (sc'.names.lookup x).map fun k => if (k == .free && sc.kind == .function && sc.names.lookup x == some .cell) then .cell else k := by
 unfold rel
 rw [← lookup_mapk (fun n k => if (k == .free && sc.kind == .function && sc.names.lookup n == some .cell) then .cell else k)]
 congr 1
 apply List.map_congr_left
 rintro ⟨n, k⟩ _
 dsimp only
 split <;> rfl
noncomputable def clos (env : Env) : List (Str × NameKind) → List (Str × Addr) → List (Str × Addr)
 | [], acc => acc
 | (n, k) :: r, acc => clos env r (if k == .free then (n, (env.cells.lookup n).getD 0) :: acc else acc)
theorem clos_lookup (env : Env) (x : Str) : ∀ (l : List (Str × NameKind)) (acc : List (Str × Addr)), (l.map (·.1)).Nodup →
  (clos env l acc).lookup x = if l.lookup x = some .free then some ((env.cells.lookup x).getD 0) else acc.lookup x
 | [], acc, _ => rfl
 | (n, k) :: r, acc, hd => by
  rw [List.map_cons, List.nodup_cons] at hd
  unfold clos
  rw [clos_lookup env x r _ hd.2, List.lookup_cons]
  cases h : x == n with
  | true =>
   have e := eq_of_beq h
   subst e
   have hr : r.lookup x = none := by
    cases q : r.lookup x with
    | none => rfl
    | some v => exact absurd (List.mem_map.mpr ⟨_, mem_of_lookup q, rfl⟩) hd.1
   rw [hr, if_neg (by simp)]
   dsimp only
   cases hk : k == NameKind.free with
   | true => rw [eq_of_beq hk]; simp [List.lookup_cons]
   | false =>
    have hk' : k ≠ .free := beq_eq_false_iff_ne.mp hk
    simp [hk']
  | false =>
   dsimp only
   split
   ·rfl
   ·split
    ·rw [List.lookup_cons, h]
    ·rfl
theorem closure_eq (env : Env) (f : Str × NameKind → List (Str × Addr) → Sem (ForInStep (List (Str × Addr))))
  (hf : ∀ n k cs, f (n, k) cs = if k == .free then (do let a ← cellOf env n; pure (.yield ((n, a) :: cs))) else pure (.yield cs)) :
  ∀ (l : List (Str × NameKind)) (acc : List (Str × Addr)), (∀ x ∈ l, x.2 = .free → (env.cells.lookup x.1).isSome = true) → forIn l acc f = pure (clos env l acc)
 | [], acc, _ => by rw [List.forIn_nil]; rfl
 | (n, k) :: r, acc, h => by
  rw [List.forIn_cons, hf]
  unfold clos
  have hr := fun x hx => h x (List.mem_cons_of_mem _ hx)
  cases hk : k == NameKind.free with
  | true =>
   obtain ⟨c, hc⟩ := Option.isSome_iff_exists.mp (h (n, k) List.mem_cons_self (eq_of_beq hk))
   have e : cellOf env n = pure c := by unfold cellOf; rw [hc]
   rw [if_pos rfl, if_pos rfl, e]
   simp only [pure_bind]
   rw [closure_eq env f hf r _ hr, hc]; rfl
  | false =>
   rw [if_neg (by simp), if_neg (by simp)]
   simp only [pure_bind]
   exact closure_eq env f hf r _ hr
theorem closureFor_eq {sc' : Scope} {env : Env} (h : ∀ x ∈ sc'.names, x.2 = .free → (env.cells.lookup x.1).isSome = true) : closureFor sc' env = pure (clos env sc'.names []) := by
 simp only [closureFor]
 rw [closure_eq env _ (fun n k cs => by cases hk : k == NameKind.free <;> simp [hk]) _ _ h]
 rfl
theorem cellsFrom_app : ∀ (l : List (Str × NameKind)) (n : Nat) (acc : List (Str × Addr)), cellsFrom n l acc = cellsFrom n l [] ++ acc
 | [], _, _ => rfl
 | (m, k) :: r, n, acc => by
  unfold cellsFrom
  split
  ·rw [cellsFrom_app r (n + 1) ((m, n) :: acc), cellsFrom_app r (n + 1) [(m, n)], List.append_assoc]; rfl
  ·exact cellsFrom_app r n acc
theorem cellsFrom_mem : ∀ (l : List (Str × NameKind)) (n : Nat) (x : Str) (c : Addr), (x, c) ∈ cellsFrom n l [] → (x, NameKind.cell) ∈ l
 | [], _, _, _, h => by simp [cellsFrom] at h
 | (m, k) :: r, n, x, c, h => by
  unfold cellsFrom at h
  split at h
  ·rename_i hk
   rw [cellsFrom_app, List.mem_append] at h
   rcases h with h | h
   ·exact List.mem_cons_of_mem _ (cellsFrom_mem r _ x c h)
   ·rw [List.mem_singleton] at h; cases h; rw [eq_of_beq hk]; exact List.mem_cons_self
  ·exact List.mem_cons_of_mem _ (cellsFrom_mem r n x c h)
theorem cellsFrom_has : ∀ (l : List (Str × NameKind)) (n : Nat) (x : Str), (x, NameKind.cell) ∈ l → ∃ c, (x, c) ∈ cellsFrom n l []
 | (m, k) :: r, n, x, h => by
  unfold cellsFrom
  rcases List.mem_cons.mp h with e | h
  ·cases e
   rw [if_pos (beq_self_eq_true _), cellsFrom_app]
   exact ⟨n, List.mem_append_right _ (List.mem_singleton.mpr rfl)⟩
  ·split
   ·obtain ⟨c, hc⟩ := cellsFrom_has r (n + 1) x h
    rw [cellsFrom_app]
    exact ⟨c, List.mem_append_left _ hc⟩
   ·exact cellsFrom_has r n x h
theorem lookup_has {α : Type} : ∀ {l : List (Str × α)} {x : Str} {v : α}, (x, v) ∈ l → ∃ u, l.lookup x = some u
 | (n, u) :: r, x, v, h => by
  rw [List.lookup_cons]
  cases hb : x == n with
  | true => exact ⟨u, rfl⟩
  | false =>
   rcases List.mem_cons.mp h with e | h
   ·cases e; rw [beq_self_eq_true] at hb; cases hb
   ·exact lookup_has h
theorem lookup_app {α : Type} : ∀ (l m : List (Str × α)) (x : Str), (l ++ m).lookup x = (l.lookup x).or (m.lookup x)
 | [], _, _ => rfl
 | (n, u) :: r, m, x => by
  rw [List.cons_append, List.lookup_cons, List.lookup_cons]
  cases x == n
  ·exact lookup_app r m x
  ·rfl
section
variable {prog : Program} {w : World} {nm fn : Nat → Str} {FT : List FE} {base : Heap} {N : Nat} {A : Around} {fr : List Env} {env : Env} {sc sc' : Scope} {W : Bool → Addr → Prop} {ρ : Rho} {s : Shared}
theorem newEnv_ok {M : Model} {E : Value → Shared → Prop} {cl : List (Str × Addr)} {Q : Env → Shared → Prop}
  (h : Q { scope := sc', locals := s.heap.objs.size, globals := env.globals, cells := cellsFrom (s.heap.objs.size + 1) sc'.names cl, qual := env.qual, func := none, code := env.code, frame := env.frame, builtins := env.builtins }
   { s with heap := pushCells (s.heap.push { cls := .type "dict", data := .dict #[] }) sc'.names }) : wpAny M A (newFunctionEnv sc' env.globals cl [] env.qual none .none (some env)) Q E s := by
 simp only [newFunctionEnv, Option.isSome_some, if_true]
 refine wpAny_bind (wpAny_alloc ?_)
 refine wpAny_bind (wpAny_layCells _ (fun name kind cells => by cases hkc : kind == NameKind.cell <;> simp [hkc]) _ _ _ _ ?_)
 rw [show ({ s with heap := s.heap.push { cls := .type "dict", data := .dict #[] } } : Shared).heap.objs.size = s.heap.objs.size + 1 from Heap.size_push ..]
 exact wpAny_bind (wpAny_pure (wpAny_pure h))
noncomputable def compEnv (env : Env) (sc' : Scope) (n : Nat) : Env :=
 { scope := relabel sc' env, locals := n, globals := env.globals, cells := cellsFrom (n + 1) sc'.names (clos env sc'.names []), qual := env.qual, func := none, code := env.code, frame := env.frame, builtins := env.builtins }
noncomputable def compHeap (h : Heap) (sc' : Scope) : Heap := pushCells (h.push { cls := .type "dict", data := .dict #[] }) sc'.names
theorem compHeap_keeps (h : Heap) (sc' : Scope) : ∀ b o, h.get? b = some o → (compHeap h sc').get? b = some o := fun b o e => pushCells_keeps _ _ b o (Heap.get?_push_of_some _ e)
theorem compOk_of (h : compOk sc sc' = true) : sc'.kind = .function ∧ (sc'.names.map (·.1)).Nodup ∧ ∀ x ∈ sc'.names, x.2 = .free → sc.names.lookup x.1 = some .cell ∨ sc.names.lookup x.1 = some .free := by
 unfold compOk at h
 rw [Bool.and_eq_true, Bool.and_eq_true, decide_eq_true_iff, List.all_eq_true, beq_iff_eq] at h
 refine ⟨h.1.1, h.1.2, fun x hx hf => ?_⟩
 have := h.2 x hx
 rw [hf] at this
 simpa using this
theorem compFree {σ : Str → Option Value} {h : Heap} (f : Fm env h σ) (hc : compOk env.scope sc' = true) : ∀ x ∈ sc'.names, x.2 = .free → (env.cells.lookup x.1).isSome = true := fun x hx hf => by
 obtain ⟨c, hc', _⟩ := f.cell x.1 ((compOk_of hc).2.2 x hx hf)
 rw [hc']; rfl
theorem comp_cells {h : Heap} {sc' : Scope} (env : Env) (hd : (sc'.names.map (·.1)).Nodup) :
  (∀ x, sc'.names.lookup x = some .cell → ∃ c, (compEnv env sc' h.objs.size).cells.lookup x = some c ∧ (compHeap h sc').IsCell c none ∧ h.objs.size < c) ∧
  (∀ x, sc'.names.lookup x = some .free → (compEnv env sc' h.objs.size).cells.lookup x = some ((env.cells.lookup x).getD 0)) ∧
  (∀ x y c, sc'.names.lookup x = some .cell → sc'.names.lookup y = some .cell → (compEnv env sc' h.objs.size).cells.lookup x = some c → (compEnv env sc' h.objs.size).cells.lookup y = some c → x = y) := by
 have ok := cellsFrom_ok sc'.names (h.push { cls := .type "dict", data := .dict #[] }) (h.objs.size + 1) [] ⟨fun _ _ hm => (nomatch hm), List.Pairwise.nil⟩ (by rw [Heap.size_push]; exact Nat.le_refl _)
 rw [Heap.size_push] at ok
 have own : ∀ x, sc'.names.lookup x = some .cell → ∃ c, (cellsFrom (h.objs.size + 1) sc'.names []).lookup x = some c := fun x hx => by
  obtain ⟨c, hc⟩ := cellsFrom_has _ (h.objs.size + 1) x (mem_of_lookup hx)
  exact lookup_has hc
 have lk : ∀ x, (compEnv env sc' h.objs.size).cells.lookup x = ((cellsFrom (h.objs.size + 1) sc'.names []).lookup x).or ((clos env sc'.names []).lookup x) := fun x => by
  show (cellsFrom _ _ _).lookup x = _
  rw [cellsFrom_app, lookup_app]
 refine ⟨fun x hx => ?_, fun x hx => ?_, fun x y c hx hy h1 h2 => ?_⟩
 ·obtain ⟨c, hc⟩ := own x hx
  have := ok.empty x c (mem_of_lookup hc)
  exact ⟨c, by rw [lk, hc]; rfl, this.1, this.2⟩
 ·have : (cellsFrom (h.objs.size + 1) sc'.names []).lookup x = none := by
   cases q : (cellsFrom (h.objs.size + 1) sc'.names []).lookup x with
   | none => rfl
   | some c =>
    have := mem_lookup hd (cellsFrom_mem _ _ _ _ (mem_of_lookup q))
    rw [hx] at this; cases this
  rw [lk, this, clos_lookup env x _ _ hd, if_pos hx]; rfl
 ·obtain ⟨c1, q1⟩ := own x hx
  obtain ⟨c2, q2⟩ := own y hy
  rw [lk, q1] at h1
  rw [lk, q2] at h2
  cases h1; cases h2
  exact name_of_addr ok.apart (mem_of_lookup q1) (mem_of_lookup q2)
theorem comp_at {h : Heap} {T : Str → Prop} (hc : compOk env.scope sc' = true) (hT : ∀ x, T x → sc'.names.lookup x = some .local ∨ sc'.names.lookup x = some .cell) :
  ∀ a, Fm.at (compEnv env sc' h.objs.size) T a → h.get? a = none ∧ ∃ o, (compHeap h sc').get? a = some o := by
 obtain ⟨hk, hd, hf⟩ := compOk_of hc
 obtain ⟨c1, c2, c3⟩ := comp_cells (h := h) (sc' := sc') env hd
 rintro a (rfl | ⟨x, hx, hkx, hcx⟩)
 ·exact ⟨push_none _, _, pushCells_keeps _ _ _ _ (Heap.get?_push_size _ rfl)⟩
 ·have e : (compEnv env sc' h.objs.size).kindOf x = (rel env.scope sc').names.lookup x := rfl
  rw [e, rel_lookup] at hkx
  rcases hT x hx with q | q
  ·rw [q] at hkx; simp at hkx
  ·obtain ⟨c, hc', ⟨o, ho, _⟩, hlt⟩ := c1 x q
   rw [hcx] at hc'; cases hc'
   exact ⟨Heap.get?_none_of_le (Nat.le_of_lt hlt), o, ho⟩
theorem comp_fm_of {ce : Env} {lk : Str → Option NameKind} {n : Nat} {h₀ H : Heap} {σ : Str → Option Value} (f : Fm env h₀ σ) (keep : ∀ b o, h₀.get? b = some o → H.get? b = some o) (small : ∀ c v, h₀.IsCell c v → c < n)
  (ns : H.Ns ce.locals fun _ => none) (hl : ∀ x, ce.kindOf x = some .local → lk x ≠ some .free)
  (hcf : ∀ x, ce.kindOf x = some .cell ∨ ce.kindOf x = some .free → lk x = some .cell ∨ lk x = some .free ∧ (env.kindOf x = some .cell ∨ env.kindOf x = some .free))
  (hcc : ∀ x, ce.kindOf x = some .cell → lk x = some .free → env.kindOf x = some .cell)
  (c1 : ∀ x, lk x = some .cell → ∃ c, ce.cells.lookup x = some c ∧ H.IsCell c none ∧ n < c) (c2 : ∀ x c, lk x = some .free → env.cells.lookup x = some c → ce.cells.lookup x = some c)
  (c3 : ∀ x y c, lk x = some .cell → lk y = some .cell → ce.cells.lookup x = some c → ce.cells.lookup y = some c → x = y) : Fm ce H fun x => if lk x = some .free then σ x else none := by
 have frA : ∀ x, lk x = some .free → (env.kindOf x = some .cell ∨ env.kindOf x = some .free) → ∃ c, env.cells.lookup x = some c ∧ ce.cells.lookup x = some c ∧ h₀.IsCell c (σ x) := fun x q k => by
  obtain ⟨c, a, b⟩ := f.cell x k
  exact ⟨c, a, c2 x c q a, b⟩
 have clash : ∀ x y c, lk x = some .cell → lk y = some .free → (env.kindOf y = some .cell ∨ env.kindOf y = some .free) → ce.cells.lookup x = some c → ce.cells.lookup y = some c → False := fun x y c qx qy ky h1 h2 => by
  obtain ⟨c', a, b, lt⟩ := c1 x qx
  obtain ⟨d, _, a2, b2⟩ := frA y qy ky
  rw [Option.some.inj (h1.symm.trans a)] at h2
  rw [Option.some.inj (a2.symm.trans h2)] at b2
  exact Nat.lt_asymm lt (small _ _ b2)
 refine ⟨⟨_, ns, fun x hx => (if_neg (hl x hx)).symm⟩, fun x hx => ?_, fun x y c hx hy h1 h2 => ?_⟩
 ·refine (hcf x hx).elim (fun q => ?_) fun q => ?_
  ·obtain ⟨c, a, b, _⟩ := c1 x q
   exact ⟨c, a, by rw [if_neg (by rw [q]; exact fun z => nomatch z)]; exact b⟩
  ·obtain ⟨c, _, a, b⟩ := frA x q.1 q.2
   exact ⟨c, a, by rw [if_pos q.1]; exact b.keeps keep⟩
 ·refine (hcf x (.inl hx)).elim (fun qx => (hcf y hy).elim (fun qy => c3 x y c qx qy h1 h2) fun qy => (clash x y c qx qy.1 qy.2 h1 h2).elim) fun qx => (hcf y hy).elim (fun qy => (clash y x c qy qx.1 qx.2 h2 h1).elim) fun qy => ?_
  obtain ⟨cx, a, b, _⟩ := frA x qx.1 qx.2
  obtain ⟨cy, a2, b2, _⟩ := frA y qy.1 qy.2
  rw [Option.some.inj (b.symm.trans h1)] at a
  rw [Option.some.inj (b2.symm.trans h2)] at a2
  exact f.inj x y c (hcc x hx qx.1) qy.2 a a2
theorem comp_fm {h₀ h : Heap} (e : EOk prog w nm env sc h₀ W ρ) (keep : ∀ b o, h₀.get? b = some o → h.get? b = some o) (hc : compOk sc sc' = true) (W' : Bool → Addr → Prop) (hW : ∀ t a, W' t a → W t a ∨ h₀.get? a = none) :
  EOk prog w nm (compEnv env sc' h.objs.size) (rel sc sc') (compHeap h sc') W' (inner nm sc' ρ) := by
 have hsc := e.sc
 subst hsc
 obtain ⟨hk, hd, hf⟩ := compOk_of hc
 obtain ⟨c1, c2, c3⟩ := comp_cells (h := h) (sc' := sc') env hd
 obtain ⟨σ, f, m⟩ := e.fm
 generalize hce : compEnv env sc' h.objs.size = ce at c1 c2 c3 ⊢
 have kd : ∀ x, ce.kindOf x = (sc'.names.lookup x).map fun k => if (k == .free && env.scope.kind == .function && env.scope.names.lookup x == some .cell) then .cell else k := hce ▸ rel_lookup _ _
 have kf : ∀ x, sc'.names.lookup x = some .free → ce.kindOf x = some (if env.scope.kind == .function && env.kindOf x == some .cell then .cell else .free) := fun x q => by rw [kd, q]; rfl
 refine ⟨⟨hce ▸ hk, hce ▸ e.g.gl, hce ▸ e.g.bl⟩, hce ▸ rfl, _, comp_fm_of (lk := fun x => sc'.names.lookup x) f (fun b o q => compHeap_keeps _ _ b o (keep b o q)) (fun c v q => (q.keeps keep).lt) (hce ▸ (Heap.Ns.new h (.type "dict")).keeps (pushCells_keeps _ _)) (fun x hx q => ?_) (fun x hx => ?_) (fun x hx q => ?_) c1 (fun x c q a => by rw [c2 x q, a]; rfl) c3, fun i d t hi => ?_⟩
 ·rw [kf x q] at hx
  split at hx <;> cases hx
 ·cases q : sc'.names.lookup x with
  | none => rw [kd, q] at hx; exact hx.elim optE optE
  | some k =>
   cases k with
   | cell => exact .inl rfl
   | free => exact .inr ⟨rfl, hf (x, .free) (mem_of_lookup q) rfl⟩
   | _ => rw [kd, q] at hx; exact absurd hx (by simp)
 ·rw [kf x q] at hx
  split at hx
  ·rename_i z; exact eq_of_beq ((Bool.and_eq_true _ _).mp z).2
  ·cases hx
 ·unfold inner at hi
  by_cases q : (sc'.names.lookup (nm i) == some .free) = true
  ·rw [if_pos q] at hi
   have q := eq_of_beq q
   obtain ⟨a, u, b, r⟩ := m i d t hi
   refine ⟨?_, u, (if_pos q).trans b, r.mono (fun b o _ e => compHeap_keeps _ _ b o (keep b o e)) fun a q => hW t a q⟩
   rw [kf _ q]
   split
   ·exact .inr (.inl rfl)
   ·exact .inr (.inr rfl)
  ·rw [if_neg q] at hi; cases hi
end
end
section
section
variable {M : Model} {A : Around} {E : Value → Shared → Prop} {s : Shared} {env : Env}
theorem turn_last {elt tg iter : Expr} {ifs : List Expr} {gens : List Comprehension} {scope : Scope} {pos : Pos} {dp : Nat} {it acc : Value} {Q : Fin → Shared → Prop}
  (hg : gens[dp]? = some ⟨tg, iter, ifs, 0⟩) (hl : gens[dp + 1]? = none)
  (h : wpAny M A (pyNext it) (fun r s₁ => match r with
   | none => Q (.done .next) s₁
   | some v => wpAny M A (letOwnedTupleGo tg it v) (fun _ s₂ => wpAny M A (assign tg env v) (fun _ s₃ =>
     wpAny M A (forIn ifs true fun c r => if r = true then do let ok ← isTrue c env (eval c env); pure (ForInStep.yield ok) else pure (ForInStep.yield r)) (fun ok s₄ =>
      if ok = true then wpAny M A (eval elt env) (fun x s₅ => wpAny M A (call (.builtin "list.append") [acc, x]) (fun _ s₆ => Q (.again (.compLoop (.ListComp elt gens scope pos) dp it acc env)) s₆) E s₅) E s₄
      else Q (.again (.compLoop (.ListComp elt gens scope pos) dp it acc env)) s₄) E s₃) E s₂) E s₁) E s) :
  wpAny M A (compTurn (.ListComp elt gens scope pos) dp it acc env) Q E s := by
 unfold compTurn
 dsimp only
 rw [hg]
 dsimp only
 refine wpAny_bind (wpAny_standAt (wpAny_bind (wpAny_mono h (fun r s₁ h₁ => ?_) fun _ _ x => x)))
 cases r with
 | none => exact wpAny_pure h₁
 | some v =>
  refine wpAny_bind (wpAny_mono h₁ (fun _ s₂ h₂ => wpAny_bind (wpAny_mono h₂ (fun _ s₃ h₃ => ?_) fun _ _ x => x)) fun _ _ x => x)
  refine wpAny_bind (wpAny_mono h₃ (fun ok s₄ h₄ => ?_) fun _ _ x => x)
  cases ok with
  | false => exact wpAny_pure h₄
  | true =>
   rw [hl]
   exact wpAny_bind (wpAny_bind (wpAny_mono h₄ (fun x s₅ h₅ => wpAny_bind (wpAny_mono h₅ (fun _ s₆ h₆ => wpAny_pure (wpAny_pure h₆)) fun _ _ x => x)) fun _ _ x => x))
theorem turn_more {elt tg iter tg' iter' : Expr} {ifs ifs' : List Expr} {gens : List Comprehension} {scope : Scope} {pos : Pos} {dp : Nat} {it acc : Value} {Q : Fin → Shared → Prop}
  (hg : gens[dp]? = some ⟨tg, iter, ifs, 0⟩) (hl : gens[dp + 1]? = some ⟨tg', iter', ifs', 0⟩) (hs : ∀ x, foldedSetIterable iter' env x = pure x)
  (h : wpAny M A (pyNext it) (fun r s₁ => match r with
   | none => Q (.done .next) s₁
   | some v => wpAny M A (letOwnedTupleGo tg it v) (fun _ s₂ => wpAny M A (assign tg env v) (fun _ s₃ =>
     wpAny M A (forIn ifs true fun c r => if r = true then do let ok ← isTrue c env (eval c env); pure (ForInStep.yield ok) else pure (ForInStep.yield r)) (fun ok s₄ =>
      if ok = true then wpAny M A (eval iter' env) (fun x s₅ => wpAny M A (pyIter x) (fun it' s₆ => codeAny M A (.compStart (.ListComp elt gens scope pos) (dp + 1) it' acc env)
       (fun r s₇ => ∃ f, r = .ok f ∧ Q (.again (.compLoop (.ListComp elt gens scope pos) dp it acc env)) s₇) s₆) E s₅) E s₄
      else Q (.again (.compLoop (.ListComp elt gens scope pos) dp it acc env)) s₄) E s₃) E s₂) E s₁) E s) :
  wpAny M A (compTurn (.ListComp elt gens scope pos) dp it acc env) Q E s := by
 unfold compTurn
 dsimp only
 rw [hg]
 dsimp only
 refine wpAny_bind (wpAny_standAt (wpAny_bind (wpAny_mono h (fun r s₁ h₁ => ?_) fun _ _ x => x)))
 cases r with
 | none => exact wpAny_pure h₁
 | some v =>
  refine wpAny_bind (wpAny_mono h₁ (fun _ s₂ h₂ => wpAny_bind (wpAny_mono h₂ (fun _ s₃ h₃ => ?_) fun _ _ x => x)) fun _ _ x => x)
  refine wpAny_bind (wpAny_mono h₃ (fun ok s₄ h₄ => ?_) fun _ _ x => x)
  cases ok with
  | false => exact wpAny_pure h₄
  | true =>
   rw [hl]
   dsimp only
   refine wpAny_bind (wpAny_mono h₄ (fun x s₅ h₅ => wpAny_bind (wpAny_standAt ?_)) fun _ _ x => x)
   rw [if_neg (by decide)]
   refine wpAny_bind (wpAny_of_eq (hs x) (wpAny_bind (wpAny_holding ?_)))
   rw [if_neg (by decide)]
   refine wpAny_mono h₅ (fun it' s₆ h₆ => ?_) fun _ _ x => x
   refine wpAny_bind (wpAny_runOwn (codeAny_mono h₆ fun r s₇ h₇ => ?_))
   obtain ⟨f, rfl, h₇⟩ := h₇
   exact wpAny_pure h₇
theorem turn_dict {kx vx tg iter : Expr} {ifs : List Expr} {scope : Scope} {pos : Pos} {it : Value} {D : Addr} {Q : Fin → Shared → Prop}
  (h : wpAny M A (pyNext it) (fun r s₁ => match r with
   | none => Q (.done .next) s₁
   | some v => wpAny M A (letOwnedTupleGo tg it v) (fun _ s₂ => wpAny M A (assign tg env v) (fun _ s₃ =>
     wpAny M A (forIn ifs true fun c r => if r = true then do let ok ← isTrue c env (eval c env); pure (ForInStep.yield ok) else pure (ForInStep.yield r)) (fun ok s₄ =>
      if ok = true then wpAny M A (eval kx env) (fun x s₅ => wpAny M A (eval vx env) (fun y s₆ => wpAny M A (dictSet D x y) (fun _ s₇ => Q (.again (.compLoop (.DictComp kx vx [⟨tg, iter, ifs, 0⟩] scope pos) 0 it (.ref D) env)) s₇) E s₆) E s₅) E s₄
      else Q (.again (.compLoop (.DictComp kx vx [⟨tg, iter, ifs, 0⟩] scope pos) 0 it (.ref D) env)) s₄) E s₃) E s₂) E s₁) E s) :
  wpAny M A (compTurn (.DictComp kx vx [⟨tg, iter, ifs, 0⟩] scope pos) 0 it (.ref D) env) Q E s := by
 unfold compTurn
 dsimp only
 refine wpAny_bind (wpAny_standAt (wpAny_bind (wpAny_mono h (fun r s₁ h₁ => ?_) fun _ _ x => x)))
 cases r with
 | none => exact wpAny_pure h₁
 | some v =>
  refine wpAny_bind (wpAny_mono h₁ (fun _ s₂ h₂ => wpAny_bind (wpAny_mono h₂ (fun _ s₃ h₃ => ?_) fun _ _ x => x)) fun _ _ x => x)
  refine wpAny_bind (wpAny_mono h₃ (fun ok s₄ h₄ => ?_) fun _ _ x => x)
  cases ok with
  | false => exact wpAny_pure h₄
  | true =>
   refine wpAny_bind (wpAny_bind (wpAny_mono h₄ (fun x s₅ h₅ => wpAny_bind (wpAny_holding (wpAny_mono h₅ (fun y s₆ h₆ => ?_) fun _ _ x => x))) fun _ _ x => x))
   exact wpAny_bind (wpAny_standAt (wpAny_holding (wpAny_mono h₆ (fun _ s₇ h₇ => wpAny_pure h₇) fun _ _ x => x)))
end
end
section
theorem collectM_some {β : Type} {f : D → Option (List β)} : ∀ {ds : List D} {vs : List β}, collectM f ds = some vs → ∃ L : List (List β), vs = L.flatten ∧ L.length = ds.length ∧ ∀ (i : Nat) (d : D), ds[i]? = some d → ∃ x : List β, f d = some x ∧ L[i]? = some x
 | [], vs, h => someE h ⟨[], rfl, rfl, fun i d hd => optE hd⟩
 | d :: r, vs, h => by
  unfold collectM at h
  cases h1 : f d with
  | none => rw [h1] at h; exact optE h
  | some x =>
  cases h2 : collectM f r with
  | none => rw [h1, h2] at h; exact optE h
  | some y =>
  rw [h1, h2] at h
  obtain ⟨L, rfl, hl, hL⟩ := collectM_some h2
  refine someE h ⟨x :: L, rfl, congrArg (· + 1) hl, fun i d' hd => ?_⟩
  cases i with
  | zero => exact someE hd ⟨x, h1, rfl⟩
  | succ i => exact hL i d' hd
section
variable {prog : Program} {w : World} {nm fn : Nat → Str} {FT : List FE} {base : Heap} {N : Nat} {A : Around} {fr : List Env} {env : Env} {sc : Scope} {W : Bool → Addr → Prop} {ρ : Rho} {s : Shared}
theorem RVs.mono {h h' : Heap} {W W' : Bool → Addr → Prop} {us : List Value} {vs : List V} (r : RVs prog w h W us vs) (hk : ∀ t b o, ¬ W t b → h.get? b = some o → h'.get? b = some o) (hW : ∀ t a, W' t a → W t a ∨ h.get? a = none) : RVs prog w h' W' us vs := by
 induction r with
 | nil => exact .nil
 | cons x _ ih => exact .cons (x.mono (fun b o hb e => hk _ b o hb e) fun a q => hW _ a q) ih
theorem RVs.append {h : Heap} {us us' : List Value} {vs vs' : List V} (r : RVs prog w h W us vs) (r' : RVs prog w h W us' vs') : RVs prog w h W (us ++ us') (vs ++ vs') := by
 induction r with
 | nil => exact r'
 | cons x _ ih => exact .cons x ih
structure Gd (A : Around) (fr : List Env) (base : Heap) (N : Nat) (env : Env) (W : Bool → Addr → Prop) (T : Str → Prop) (Z : Addr) (h₀ : Heap) : Prop where
 cx : Cx A fr base h₀ N
 frW : ∀ a, frA fr a → W true a
 le : ∀ a, W true a → W false a
 DW : W true Z
 fmW : ∀ a, Fm.at env T a → W true a
 DF : ¬ Fm.all env Z
structure Lp (prog : Program) (w : World) (A : Around) (env : Env) (W : Bool → Addr → Prop) (T : Str → Prop) (Z : Addr) (tn : Bool) (I : Addr) (fp wr : List Addr) (ds : List D) (en : Bool) (h₁ : Heap) (Wt : Addr → Prop) (At : Nat → Heap → Prop) : Prop where
 wk : Wk prog w A I fp wr ds en h₁ Wt At
 wrW : ∀ a ∈ wr, W true a
 Dfp : Z ∉ fp
 fpF : ∀ b ∈ fp, ¬ Fm.at env T b
 wrF : ∀ b ∈ wr, ¬ Fm.all env b
 hWt : ∀ a, W tn a → Wt a ∨ a ∈ wr ∨ h₁.get? a = none
noncomputable def AccL (prog : Program) (w : World) (Z : Addr) (h : Heap) (W : Bool → Addr → Prop) (vs : List V) : Prop := ∃ us m, h.get? Z = some (sq "list" us m) ∧ RVs prog w h W us vs
theorem Kp.andThen {S : Addr → Prop} {h₀ h h' : Heap} (k : Kp S h₀ h) (hk : ∀ b o, h₀.get? b ≠ none → h.get? b = some o → h'.get? b = some o) : Kp S h₀ h' :=
 ⟨fun b o hS e => hk b o (by rw [e]; simp) (k.out b o hS e), fun b o e => let ⟨sl, e'⟩ := k.all b o e; ⟨sl, hk b _ (by rw [e]; simp) e'⟩⟩
structure Tn (prog : Program) (w : World) (nm : Nat → Str) (fr : List Env) (tq : Bool) (env : Env) (sc : Scope) (W : Bool → Addr → Prop) (ρ : Rho) (h₀ h : Heap) : Prop where
 keep : Kp (SS fr tq) h₀ h
 e : EOk prog w nm env sc h W ρ
 al : ∀ a, W false a → ∃ o, h.get? a = some o
theorem Tn.st {tq : Bool} {T : Str → Prop} {Z : Addr} {h₀ : Heap} (g : Gd A fr base N env W T Z h₀) (x : Tn prog w nm fr tq env sc W ρ h₀ s.heap) (tk : 0 ≤ s.toks) : St (prog := prog) (w := w) (nm := nm) A fr base N env sc W ρ s :=
 ⟨g.cx.step x.keep, x.e, ⟨g.frW, g.le, x.al⟩, tk⟩
theorem tests_false (l : List Expr) {Q : Bool → Shared → Prop} {M : Model} {E : Value → Shared → Prop} (h : Q false s) :
  wpAny M A (forIn l false fun c r => if r = true then do let ok ← isTrue c env (eval c env); pure (ForInStep.yield ok) else pure (ForInStep.yield r)) Q E s := by
 induction l with
 | nil => rw [List.forIn_nil]; exact wpAny_pure h
 | cons c r ih => rw [List.forIn_cons]; exact wpAny_bind (by rw [if_neg (by simp)]; exact wpAny_pure ih)
variable (prog w nm fn FT base N) in
noncomputable def SoundTo (n : Nat) : Prop := ∀ m, m ≤ n → Sound prog w nm fn FT base N m
variable (am : Am prog w nm fn FT base N) {n : Nat} (ih : SoundTo prog w nm fn FT base N n)
include ih in
theorem sound_ifs : ∀ m, m ≤ n + 1 → ∀ sc es ρ b, evIfs nm fn FT m sc es ρ = some b → ∀ A fr env W s, St (prog := prog) (w := w) (nm := nm) A fr base N env sc W ρ s →
  Ok (model prog w) A (forIn (es.py nm fn) true fun c r => if r = true then do let ok ← isTrue c env (eval c env); pure (ForInStep.yield ok) else pure (ForInStep.yield r)) s (fun u h' => Kp (SS fr false) s.heap h' ∧ u = b) := by
 intro m
 induction m with
 | zero => intro _ sc es ρ b h; exact optE h
 | succ m ihm =>
  intro hm sc es ρ b h A fr env W s st
  cases es with
  | nil => exact someE h (Ok.pure ⟨Kp.refl, rfl⟩)
  | cons e r =>
   show Ok _ A (forIn (e.py nm fn :: r.py nm fn) true _) s _
   rw [List.forIn_cons]
   refine wpAny_bind ?_
   rw [if_pos rfl]
   refine I.bT h (fun h1 h => ?_) fun h1 h => ?_
   ·exact wpAny_bind ((ih m (Nat.le_of_succ_le_succ hm)).kT h1 st fun h' tk hn k1 st1 => wpAny_pure ((ihm (Nat.le_of_succ_le hm) _ _ _ _ h A fr env W _ st1).wp2 fun u h'' tk' hn' k2 e2 => fin ⟨k1.trans k2, e2⟩))
   ·exact someE h (wpAny_bind ((ih m (Nat.le_of_succ_le_succ hm)).kT h1 st fun h' tk hn k1 st1 => wpAny_pure (tests_false _ (fin ⟨k1, rfl⟩))))
theorem bindTg_off {tg : Tg} {v : V} {ρ' : Rho} (h : bindTg tg v ρ = some ρ') : ∀ k, k ∉ tgVars tg → ρ' k = ρ k := by
 cases tg with
 | one i p => exact someE h fun k hk => if_neg fun e => hk (by rw [e]; exact List.mem_cons_self)
 | two i p j q kk r =>
  cases v with | mk d t =>
  cases d with
  | tup ds =>
   cases ds with
   | nil => exact optE h
   | cons a ds =>
   cases ds with
   | nil => exact optE h
   | cons b ds =>
   cases ds with
   | nil => exact someE h fun k hk => (if_neg fun e => hk (by rw [e]; exact List.mem_cons_of_mem _ List.mem_cons_self)).trans (if_neg fun e => hk (by rw [e]; exact List.mem_cons_self))
   | cons _ _ => exact optE h
  | _ => exact optE h
theorem bindTg_ext {tg : Tg} {v : V} {ρ' : Rho} (h : bindTg tg v ρ = some ρ') (hd : ∀ k ∈ tgVars tg, ρ k = none) : ∀ k x, ρ k = some x → ρ' k = some x := fun k x hx =>
 (bindTg_off h k fun q => by rw [hd k q] at hx; cases hx).trans hx
theorem bindTg_dom {tg : Tg} {v : V} {ρ' : Rho} (h : bindTg tg v ρ = some ρ') {k : Nat} {x : V} (hx : ρ' k = some x) : k ∈ tgVars tg ∨ ρ k = some x :=
 Decidable.byCases .inl fun q => .inr ((bindTg_off h k q).symm.trans hx)
theorem EOk.less {h : Heap} {ρ' : Rho} (e : EOk prog w nm env sc h W ρ') (hx : ∀ k x, ρ k = some x → ρ' k = some x) : EOk prog w nm env sc h W ρ :=
 ⟨e.g, e.sc, let ⟨σ, f, m⟩ := e.fm; ⟨σ, f, fun i d t hi => m i d t (hx i _ hi)⟩⟩
end
end
section
section
variable {prog : Program} {w : World} {nm fn : Nat → Str} {FT : List FE} {base : Heap} {N : Nat} {A : Around} {fr : List Env} {env : Env} {sc : Scope} {W : Bool → Addr → Prop} {ρ : Rho} {s : Shared}
variable (am : Am prog w nm fn FT base N) {n : Nat} (ih : SoundTo prog w nm fn FT base N n)
include am ih
omit am ih in
theorem down1 {n i : Nat} (h : i < n) : n + 1 - (i + 1) < n + 1 - i := Nat.sub_lt_sub_left (Nat.lt_succ_of_lt h) (Nat.lt_succ_self i)
theorem loop_turn {tq : Bool} {I Z : Addr} {fp wr : List Addr} {ds : List D} {en tn : Bool} {h₀ h₁ : Heap} {Wt : Addr → Prop} {At : Nat → Heap → Prop} {T : Str → Prop} {tg : Tg} {ifs : XS} {k : Nat}
  {em : Rho → Option (List V)} {vs' y : List V} {len i : Nat} {d : D} {Ac : Heap → List V → Prop} {Bd : (Shared → Prop) → (Value → Shared → Prop) → Shared → Prop}
  (hk : k ≤ n + 1) (hy : (match bindTg tg (itV d tn) ρ with
   | some r' => match evIfs nm fn FT k sc ifs r' with
    | some true => em r'
    | some false => some []
    | none => none
   | none => none) = some y) (hd : ds[i]? = some d)
  (body : ∀ ρ' x, bindTg tg (itV d tn) ρ = some ρ' → em ρ' = some x → ∀ (s₄ : Shared) vs', (vs' ++ x).length ≤ len → Tn prog w nm fr tq env sc W ρ' h₀ s₄.heap → 0 ≤ s₄.toks → Ac s₄.heap vs' → ∀ Qc E,
   (∀ h₅ tk, s₄.toks ≤ tk → Kp (SS fr tq) h₀ h₅ → EOk prog w nm env sc h₅ W ρ → Ac h₅ (vs' ++ x) → (∀ b o, b ≠ Z → ¬ Fm.at env T b → s₄.heap.get? b = some o → h₅.get? b = some o) → Qc (up s₄ h₅ tk)) → Bd Qc E s₄)
  (hlen : (vs' ++ y).length ≤ len)
  (acStep : ∀ h h' vs, Ac h vs → (∀ o, h.get? Z = some o → h'.get? Z = some o) → (∀ t b o, ¬ W t b → h.get? b = some o → h'.get? b = some o) → Ac h' vs)
  (acZ : ∀ h vs, Ac h vs → ∃ o, h.get? Z = some o)
  (g : Gd A fr base N env W T Z h₀) (lp : Lp prog w A env W T Z tn I fp wr ds en h₁ Wt At) (put : ∀ i ∈ tgVars tg, putOk sc (nm i) = true ∧ T (nm i)) (dis : ∀ i ∈ tgVars tg, ρ i = none) (two : tg.two? = en)
  (hat : At i s.heap) (kp : ∀ b o, ¬ W tn b → h₁.get? b = some o → s.heap.get? b = some o) (x : Tn prog w nm fr tq env sc W ρ h₀ s.heap) (ac : Ac s.heap vs')
  (new : ∀ a, (a = Z ∨ a ∈ wr ∨ Fm.at env T a) → h₀.get? a = none) (offW : ∀ {t : Bool} {b : Addr}, ¬ W t b → b ≠ Z ∧ b ∉ wr ∧ ¬ Fm.at env T b) (Zwr : Z ∉ wr) (ZT : ¬ Fm.at env T Z)
  {QN QL : Shared → Prop} {E : Value → Shared → Prop}
  (hQ : ∀ h tk, s.toks ≤ tk → At (i + 1) h → Tn prog w nm fr tq env sc W ρ h₀ h → Ac h (vs' ++ y) → (∀ b o, b ≠ Z → b ∉ wr → ¬ Fm.at env T b → s.heap.get? b = some o → h.get? b = some o) → QL (up s h tk)) :
  wpAny (model prog w) A (pyNext (.ref I)) (fun r s₁ => match r with
   | none => QN s₁
   | some v => wpAny (model prog w) A (letOwnedTupleGo (tg.py nm) (.ref I) v) (fun _ s₂ => wpAny (model prog w) A (assign (tg.py nm) env v) (fun _ s₃ =>
     wpAny (model prog w) A (forIn (ifs.py nm fn) true fun c r => if r = true then do let ok ← isTrue c env (eval c env); pure (ForInStep.yield ok) else pure (ForInStep.yield r)) (fun ok s₄ =>
      if ok = true then Bd (fun s₆ => QL s₆) E s₄ else QL s₄) E s₃) E s₂) E s₁) E s := by
 refine Mine.I.bR hy fun ρ' hb hy => ?_
 refine next_ok (T := T) lp.wk hat hd am.inj hb x.e g.cx.hd put g.fmW g.le two lp.wrW lp.fpF lp.wrF lp.hWt kp (fun v s₁ q => q) fun h₃ tk₃ hn₃ hat₃ e₃ k₃ => ?_
 have al₃ : ∀ a, W false a → ∃ o, h₃.get? a = some o := fun a q => by
  by_cases q1 : a ∈ wr
  ·exact lp.wk.1 _ _ hat₃ a (lp.wk.sub a q1)
  ·by_cases q2 : Fm.at env T a
   ·obtain ⟨σ, f, _⟩ := e₃.fm; exact f.alive q2
   ·obtain ⟨o, ho⟩ := x.al a q; exact ⟨o, k₃ a o q1 q2 ho⟩
 have keep₃ : Kp (SS fr tq) h₀ h₃ := x.keep.andThen fun b o e0 e => k₃ b o (fun q => e0 (new b (.inr (.inl q)))) (fun q => e0 (new b (.inr (.inr q)))) e
 have st₃ := Tn.st (s := up s h₃ tk₃) g (Tn.mk keep₃ e₃ al₃) (Nat.zero_le _)
 have ac₃ : Ac h₃ vs' := acStep _ _ _ ac (fun o e => k₃ Z o Zwr ZT e) fun t b o hw e => k₃ b o (offW hw).2.1 (offW hw).2.2 e
 refine Mine.I.bT hy (fun hif hy => ?_) fun hif hy => ?_
 ·refine (sound_ifs ih k hk _ _ _ _ hif A fr env W _ st₃).wp2 fun ok h₄ tk₄ hn₄ k₄ e4 => ?_
  have k₄ : ∀ b o, h₃.get? b = some o → h₄.get? b = some o := fun b o e => k₄.out b o (fun q => Bool.false_ne_true q.1) e
  rw [e4, if_pos rfl]
  have st₄ := st₃.step (tp := false) hn₄ (Kp.of k₄)
  refine body ρ' y hb hy (up s h₄ tk₄) _ hlen ⟨keep₃.andThen fun b o _ e => k₄ b o e, st₄.e, st₄.wo.al⟩ st₄.tk (acStep _ _ _ ac₃ (fun o e => k₄ Z o e) fun t b o _ e => k₄ b o e) _ _ fun h₅ tk₅ hn₅ keep₅ e₅ ac₅ k₅ => ?_
  refine hQ h₅ tk₅ (Nat.le_trans hn₃ (Nat.le_trans hn₄ hn₅)) (lp.wk.frame hat₃ fun b hb o e => k₅ b o (fun q => lp.Dfp (q ▸ hb)) (lp.fpF b hb) (k₄ b o e)) ⟨keep₅, e₅, fun a q => ?_⟩ ac₅ fun b o q1 q2 q3 e => k₅ b o q1 q3 (k₄ b o (k₃ b o q2 q3 e))
  by_cases q0 : a = Z
  ·rw [q0]; exact acZ _ _ ac₅
  ·by_cases q2 : Fm.at env T a
   ·obtain ⟨σ, f, _⟩ := e₅.fm; exact f.alive q2
   ·obtain ⟨o, ho⟩ := st₄.wo.al a q; exact ⟨o, k₅ a o q0 q2 ho⟩
 ·rw [← Option.some.inj hy, List.append_nil] at hQ
  refine (sound_ifs ih k hk _ _ _ _ hif A fr env W _ st₃).wp2 fun ok h₄ tk₄ hn₄ k₄ e4 => ?_
  have k₄ : ∀ b o, h₃.get? b = some o → h₄.get? b = some o := fun b o e => k₄.out b o (fun q => Bool.false_ne_true q.1) e
  rw [e4, if_neg Bool.false_ne_true]
  have st₄ := st₃.step (tp := false) hn₄ (Kp.of k₄)
  exact hQ h₄ tk₄ (Nat.le_trans hn₃ hn₄) (lp.wk.frame hat₃ fun b hb o e => k₄ b o e) ⟨keep₃.andThen fun b o _ e => k₄ b o e, (st₄.e).less (bindTg_ext hb dis), st₄.wo.al⟩ (acStep _ _ _ ac₃ (fun o e => k₄ Z o e) fun t b o _ e => k₄ b o e) fun b o q1 q2 q3 e => k₄ b o (k₃ b o q2 q3 e)
theorem loop_gen {tq : Bool} {X : Expr} {dp : Nat} {acc : Value} {I Z : Addr} {fp wr : List Addr} {ds : List D} {en tn : Bool} {h₀ h₁ : Heap} {Wt : Addr → Prop} {At : Nat → Heap → Prop} {T : Str → Prop} {tg : Tg} {ifs : XS} {k : Nat}
  {em : Rho → Option (List V)} {vs vs₀ : List V} {Ac : Heap → List V → Prop} {R : Result → Shared → Prop} {Bd : (Shared → Prop) → (Value → Shared → Prop) → Shared → Prop}
  (quiet : (Code.compLoop X dp (.ref I) acc env).quiet = true) (hden : (model prog w).den (.compLoop X dp (.ref I) acc env) = (compTurn X dp (.ref I) acc env).onRaise (fun x => do noteFrame x env; theTreesLotGoes x))
  (hund : A.under (.compLoop X dp (.ref I) acc env) = A)
  (turnH : ∀ (s : Shared) (Q : Fin → Shared → Prop) (E : Value → Shared → Prop), wpAny (model prog w) A (pyNext (.ref I)) (fun r s₁ => match r with
   | none => Q (.done .next) s₁
   | some v => wpAny (model prog w) A (letOwnedTupleGo (tg.py nm) (.ref I) v) (fun _ s₂ => wpAny (model prog w) A (assign (tg.py nm) env v) (fun _ s₃ =>
     wpAny (model prog w) A (forIn (ifs.py nm fn) true fun c r => if r = true then do let ok ← isTrue c env (eval c env); pure (ForInStep.yield ok) else pure (ForInStep.yield r)) (fun ok s₄ =>
      if ok = true then Bd (fun s₆ => Q (.again (.compLoop X dp (.ref I) acc env)) s₆) E s₄ else Q (.again (.compLoop X dp (.ref I) acc env)) s₄) E s₃) E s₂) E s₁) E s →
   wpAny (model prog w) A (compTurn X dp (.ref I) acc env) Q E s)
  (hk : k ≤ n + 1) (hcol : collectM (fun d => match bindTg tg (itV d tn) ρ with
   | some r' => match evIfs nm fn FT k sc ifs r' with
    | some true => em r'
    | some false => some []
    | none => none
   | none => none) ds = some vs)
  (body : ∀ d ρ' x, bindTg tg (itV d tn) ρ = some ρ' → em ρ' = some x → ∀ (s₄ : Shared) vs', (vs' ++ x).length ≤ (vs₀ ++ vs).length → Tn prog w nm fr tq env sc W ρ' h₀ s₄.heap → 0 ≤ s₄.toks → Ac s₄.heap vs' → ∀ Qc E,
   (∀ h₅ tk, s₄.toks ≤ tk → Kp (SS fr tq) h₀ h₅ → EOk prog w nm env sc h₅ W ρ → Ac h₅ (vs' ++ x) → (∀ b o, b ≠ Z → ¬ Fm.at env T b → s₄.heap.get? b = some o → h₅.get? b = some o) → Qc (up s₄ h₅ tk)) → Bd Qc E s₄)
  (acStep : ∀ h h' vs, Ac h vs → (∀ o, h.get? Z = some o → h'.get? Z = some o) → (∀ t b o, ¬ W t b → h.get? b = some o → h'.get? b = some o) → Ac h' vs)
  (acZ : ∀ h vs, Ac h vs → ∃ o, h.get? Z = some o)
  (g : Gd A fr base N env W T Z h₀) (lp : Lp prog w A env W T Z tn I fp wr ds en h₁ Wt At) (put : ∀ i ∈ tgVars tg, putOk sc (nm i) = true ∧ T (nm i)) (dis : ∀ i ∈ tgVars tg, ρ i = none) (two : tg.two? = en)
  (hat : At 0 s.heap) (kp : ∀ b o, ¬ W tn b → h₁.get? b = some o → s.heap.get? b = some o) (x : Tn prog w nm fr tq env sc W ρ h₀ s.heap) (ac : Ac s.heap vs₀) (htk : 0 ≤ s.toks)
  (new : ∀ a, (a = Z ∨ a ∈ wr ∨ Fm.at env T a) → h₀.get? a = none)
  (hR : ∀ h' tk, s.toks ≤ tk → Kp (SS fr tq) h₀ h' → EOk prog w nm env sc h' W ρ → Ac h' (vs₀ ++ vs) → (∀ b o, b ≠ Z → b ∉ wr → ¬ Fm.at env T b → s.heap.get? b = some o → h'.get? b = some o) → R (.ok .next) (up s h' tk)) :
  codeAny (model prog w) A (.compLoop X dp (.ref I) acc env) R s := by
 obtain ⟨L, rfl, hLl, hL⟩ := collectM_some hcol
 have Zwr : Z ∉ wr := fun q => lp.Dfp (lp.wk.sub _ q)
 have all2 : ∀ {t : Bool} {a : Addr}, W true a → W t a := fun {t a} q => by
  cases t
  ·exact g.le a q
  ·exact q
 have offW : ∀ {t : Bool} {b : Addr}, ¬ W t b → b ≠ Z ∧ b ∉ wr ∧ ¬ Fm.at env T b := fun {t b} h => ⟨fun q => h (q ▸ all2 g.DW), fun q => h (all2 (lp.wrW b q)), fun q => h (all2 (g.fmW b q))⟩
 have atAll : ∀ a, Fm.at env T a → Fm.all env a := fun a q => q.imp id fun ⟨x, _, h1, h2⟩ => ⟨x, .inl h1, h2⟩
 have ZT : ¬ Fm.at env T Z := fun q => g.DF (atAll Z q)
 refine codeAny_loop quiet (LInv s ds.length fun i h => G4 (At i h) (Tn prog w nm fr tq env sc W ρ h₀ h) (Ac h (vs₀ ++ (L.take i).flatten)) (∀ b o, b ≠ Z → b ∉ wr → ¬ Fm.at env T b → s.heap.get? b = some o → h.get? b = some o)) ?_ (ds.length + 1)
  (.mk 0 s.heap s.toks (Nat.le_refl _) (Nat.zero_le _) ⟨hat, x, by rw [List.take_zero, List.flatten_nil, List.append_nil]; exact ac, fun _ _ _ _ _ e => e⟩)
 rintro m s' ⟨i, h, tk, htk', hi, hat, x, ac, hold⟩
 rw [hden, hund]
 refine wpAny_noted (turnH _ _ _ ?_)
 by_cases hlt : i < ds.length
 ·obtain ⟨d, hd⟩ : ∃ d, ds[i]? = some d := ⟨_, List.getElem?_eq_getElem hlt⟩
  obtain ⟨y, hy, hLi⟩ := hL i d hd
  have hLt : (L.take (i + 1)).flatten = (L.take i).flatten ++ y := by
   rw [List.take_add_one, hLi, List.flatten_append]; exact congrArg _ (List.append_nil _)
  have hlen : ((vs₀ ++ (L.take i).flatten) ++ y).length ≤ (vs₀ ++ L.flatten).length := by
   rw [List.append_assoc, ← hLt]
   have : L.flatten = (L.take (i + 1)).flatten ++ (L.drop (i + 1)).flatten := by rw [← List.flatten_append, List.take_append_drop]
   rw [this, List.length_append, List.length_append, List.length_append]; exact Nat.add_le_add_left (Nat.le_add_right _ _) _
  exact loop_turn am ih (s := up s h tk) hk hy hd (body d) hlen acStep acZ g lp put dis two hat (fun b o hw e => hold b o (offW hw).1 (offW hw).2.1 (offW hw).2.2 (kp b o hw e)) x ac new offW Zwr ZT fun h' tk' hn' hat' x' ac' hold' =>
   ⟨rfl, ds.length + 1 - (i + 1), down1 hlt, .mk (i + 1) h' tk' (Nat.le_trans htk' hn') hlt ⟨hat', x', by rw [hLt, ← List.append_assoc]; exact ac', fun b o q1 q2 q3 e => hold' b o q1 q2 q3 (hold b o q1 q2 q3 e)⟩⟩
 ·have hin : i = ds.length := Nat.le_antisymm hi (Nat.not_lt.mp hlt)
  rw [hin] at hat
  refine done_ok (s := up s h tk) lp.wk hat fun h' tk' hn hk' => ?_
  refine hR h' tk' (Nat.le_trans htk' hn) (x.keep.andThen fun b o e0 e => hk' b o (fun q => e0 (new b (.inr (.inl q)))) e) (x.e.keep (fun a o q e => hk' a o (fun z => lp.wrF a z q) e) fun t b o hw e => hk' b o (offW hw).2.1 e) ?_ fun b o q1 q2 q3 e => hk' b o q2 (hold b o q1 q2 q3 e)
  rw [hin, show L.take ds.length = L by rw [← hLl, List.take_length]] at ac
  exact acStep _ _ _ ac (fun o e => hk' Z o Zwr e) fun t b o hw e => hk' b o (offW hw).2.1 e
end
end
section
section
variable {prog : Program} {w : World} {nm fn : Nat → Str} {FT : List FE} {base : Heap} {N : Nat} {A : Around} {fr : List Env} {env : Env} {sc : Scope} {W : Bool → Addr → Prop} {ρ : Rho} {s : Shared}
theorem compStart_any {X : Expr} {gens : List Comprehension} {dp : Nat} {it acc : Value} {R : Result → Shared → Prop} {tg iter : Expr} {ifs : List Expr} (hX : clausesOf X = gens) (hg : gens[dp]? = some ⟨tg, iter, ifs, 0⟩)
  (hu : A.under (.compStart X dp it acc env) = A) (hd : (model prog w).den (.compStart X dp it acc env) = (compStart X dp it acc env).onRaise (fun x => do noteFrame x env; standAt theWindowsPlace))
  (h0 : codeAny (model prog w) A (.compLoop X dp it acc env) R s)
  (h : wpAny (model prog w) A (pyIter it) (fun it' s' => codeAny (model prog w) A (.compLoop X dp it' acc env) R s') (notedBy (model prog w) A env fun x s' => R (.error x) s') s) :
  codeAny (model prog w) A (.compStart X dp it acc env) R s := by
 refine codeAny_of_tree ?_
 rw [hd, hu]
 refine wpAny_notedAt ?_
 unfold compStart
 simp only [hX, hg, Option.elim_some]
 rw [if_neg (by decide)]
 show wpAny _ _ (ask >>= _) _ _ s
 refine wpAny_bind (wpAny_askSetting (wpAny_ite ?_))
 split
 ·first
   | exact wpAny_bind (wpAny_pure (wpAny_pure (And.intro rfl h0)))
   | exact wpAny_pure (And.intro rfl h0)
 ·first
   | exact wpAny_bind (wpAny_rule (wpAny_bind (wpAny_standAt (wpAny_bind (wpAny_mono h (fun it' s' h' => wpAny_pure (And.intro rfl h')) fun _ _ x => x)))))
   | (refine wpAny_bind (wpAny_rule ?_); show wpAny _ _ (standAt iter.pos >>= _) _ _ s; exact wpAny_bind (wpAny_standAt (wpAny_bind (wpAny_mono h (fun it' s' h' => wpAny_pure (And.intro rfl h')) fun _ _ x => x))))
theorem compStart_list {elt : Expr} {gens : List Comprehension} {scope : Scope} {pos : Pos} {dp : Nat} {it acc : Value} {R : Result → Shared → Prop} {tg iter : Expr} {ifs : List Expr} (hg : gens[dp]? = some ⟨tg, iter, ifs, 0⟩)
  (h0 : codeAny (model prog w) A (.compLoop (.ListComp elt gens scope pos) dp it acc env) R s)
  (h : wpAny (model prog w) A (pyIter it) (fun it' s' => codeAny (model prog w) A (.compLoop (.ListComp elt gens scope pos) dp it' acc env) R s') (notedBy (model prog w) A env fun x s' => R (.error x) s') s) :
  codeAny (model prog w) A (.compStart (.ListComp elt gens scope pos) dp it acc env) R s := compStart_any rfl hg rfl rfl h0 h
theorem compStart_dict {kx vx : Expr} {gens : List Comprehension} {scope : Scope} {pos : Pos} {dp : Nat} {it acc : Value} {R : Result → Shared → Prop} {tg iter : Expr} {ifs : List Expr} (hg : gens[dp]? = some ⟨tg, iter, ifs, 0⟩)
  (h0 : codeAny (model prog w) A (.compLoop (.DictComp kx vx gens scope pos) dp it acc env) R s)
  (h : wpAny (model prog w) A (pyIter it) (fun it' s' => codeAny (model prog w) A (.compLoop (.DictComp kx vx gens scope pos) dp it' acc env) R s') (notedBy (model prog w) A env fun x s' => R (.error x) s') s) :
  codeAny (model prog w) A (.compStart (.DictComp kx vx gens scope pos) dp it acc env) R s := compStart_any rfl hg rfl rfl h0 h
theorem folded_py (e : X) (x : Value) : foldedSetIterable (e.py nm fn) env x = pure x := by cases e <;> rfl
theorem accL_step (Z : Addr) : ∀ (h h' : Heap) (vs : List V), AccL prog w Z h W vs → (∀ o, h.get? Z = some o → h'.get? Z = some o) → (∀ t b o, ¬ W t b → h.get? b = some o → h'.get? b = some o) → AccL prog w Z h' W vs := by
 rintro h h' vs ⟨us, m, e, r⟩ hz hk
 exact ⟨us, m, hz _ e, r.mono hk fun t a q => .inl q⟩
variable (am : Am prog w nm fn FT base N) {n : Nat} (ih : SoundTo prog w nm fn FT base N n)
theorem body_last {tq : Bool} {elt : X} {n' : Nat} (hn' : n' ≤ n) {T : Str → Prop} {Z : Addr} {h₀ : Heap} {tg : Tg} {tn : Bool} {vs vs₀ : List V} (hvs : (vs₀ ++ vs).length ≤ listLine)
  (g : Gd A fr base N env W T Z h₀) (dis : ∀ i ∈ tgVars tg, ρ i = none) (ih : SoundTo prog w nm fn FT base N n) (hZ0 : h₀.get? Z = none) :
  ∀ d ρ' x, bindTg tg (itV d tn) ρ = some ρ' → (match ev nm fn FT n' sc elt false ρ' with | some v => some [v] | none => none) = some x → ∀ (s₄ : Shared) vs', (vs' ++ x).length ≤ (vs₀ ++ vs).length →
   Tn prog w nm fr tq env sc W ρ' h₀ s₄.heap → 0 ≤ s₄.toks → AccL prog w Z s₄.heap W vs' → ∀ (Qc : Shared → Prop) E,
   (∀ h₅ tk, s₄.toks ≤ tk → Kp (SS fr tq) h₀ h₅ → EOk prog w nm env sc h₅ W ρ → AccL prog w Z h₅ W (vs' ++ x) → (∀ b o, b ≠ Z → ¬ Fm.at env T b → s₄.heap.get? b = some o → h₅.get? b = some o) → Qc (up s₄ h₅ tk)) →
   wpAny (model prog w) A (eval (elt.py nm fn) env) (fun x s₅ => wpAny (model prog w) A (call (.builtin "list.append") [.ref Z, x]) (fun _ s₆ => Qc s₆) E s₅) E s₄ := by
 intro d ρ' x hb hem s₄ vs' hlen t₄ tk₄ ac Qc E h
 refine I.b1 hem fun v hv hem => ?_
 rw [← Option.some.inj hem] at hlen h
 refine (ih n' hn').k hv (t₄.st g tk₄) fun u h₅ tk₅ hn₅ k r st₅ => ?_
 have k : ∀ b o, s₄.heap.get? b = some o → h₅.get? b = some o := fun b o e => k.out b o (fun q => Bool.false_ne_true q.1) e
 obtain ⟨us, m, hz, rs⟩ := accL_step Z _ _ _ ac (fun o e => k Z o e) fun t b o _ e => k b o e
 refine wpAny_list_append_plain (items := us.toArray) ⟨m, hz⟩ (fun h₆ hl hs => ?_) (by rw [List.size_toArray, rs.length, sizeLine_eq]; exact Nat.le_trans (Nat.le_trans (by rw [List.length_append]; exact Nat.le_add_right _ _) (Nat.le_trans hlen hvs)) (by decide))
 have k6 : ∀ b o, b ≠ Z → h₅.get? b = some o → h₆.get? b = some o := fun b o hb e => (hs.2 b hb).trans e
 have kw : ∀ t b o, ¬ W t b → h₅.get? b = some o → h₆.get? b = some o := fun t b o hw e => k6 b o (fun q => hw (by rw [q]; cases t; exact g.le _ g.DW; exact g.DW)) e
 obtain ⟨m', hz'⟩ := hl
 exact h h₆ tk₅ hn₅ (t₄.keep.andThen fun b o e0 e => k6 b o (fun q => e0 (by rw [q, hZ0])) (k b o e)) ((st₅.e.keep (fun a o q e => k6 a o (fun z => g.DF (z ▸ q)) e) kw).less (bindTg_ext hb dis)) ⟨us ++ [u], m', by rw [hz']; simp [sq], (rs.append (.cons r .nil)).mono kw fun t a q => .inl q⟩ fun b o q1 _ e => k6 b o q1 (k b o e)
end
end
section
section
variable {prog : Program} {w : World} {nm fn : Nat → Str} {FT : List FE} {base : Heap} {N : Nat} {A : Around} {fr : List Env} {env : Env} {sc : Scope} {W : Bool → Addr → Prop} {ρ : Rho} {s : Shared}
theorem EOk.weakW {h : Heap} {W W' : Bool → Addr → Prop} (e : EOk prog w nm env sc h W' ρ) (hW : ∀ t a, W t a → W' t a) : EOk prog w nm env sc h W ρ :=
 ⟨e.g, e.sc, let ⟨σ, f, m⟩ := e.fm; ⟨σ, f, fun i d t hi => let ⟨a, u, b, r⟩ := m i d t hi; ⟨a, u, b, r.mono (fun _ _ _ e => e) fun a q => .inl (hW t a q)⟩⟩⟩
theorem EOk.liftW {h h' : Heap} {W W' : Bool → Addr → Prop} (e : EOk prog w nm env sc h W ρ) (keep : ∀ b o, h.get? b = some o → h'.get? b = some o) (hW : ∀ t a, W' t a → W t a ∨ h.get? a = none) : EOk prog w nm env sc h' W' ρ :=
 ⟨e.g, e.sc, let ⟨σ, f, m⟩ := e.fm; ⟨σ, f.step (S := fun _ => False) (Kp.of keep), fun i d t hi => let ⟨a, u, b, r⟩ := m i d t hi; ⟨a, u, b, r.mono (fun b o _ e => keep b o e) fun a q => hW t a q⟩⟩⟩
theorem drop_cons {α : Type} {l r : List α} {x : α} {d : Nat} (h : l.drop d = x :: r) : l[d]? = some x ∧ l.drop (d + 1) = r := by
 constructor
 ·have := congrArg List.head? h
  simpa [List.head?_drop] using this
 ·have := congrArg List.tail h
  simpa [List.tail_drop] using this
variable (am : Am prog w nm fn FT base N) {n : Nat} (ih : SoundTo prog w nm fn FT base N n)
include am ih
theorem loop_list {tq : Bool} {elt : X} {n' : Nat} (hn' : n' ≤ n) {gens : List Comprehension} {scope : Scope} {pos : Pos} {Z : Addr} {h₀ : Heap} {T : Str → Prop} : ∀ k, k ≤ n + 1 → ∀ (g : GS) (dp : Nat) (items : List D) (tn en : Bool) (ρ : Rho) (vs vs₀ : List V) (W : Bool → Addr → Prop)
  (I : Addr) (fp wr : List Addr) (At : Nat → Heap → Prop) (Wt : Addr → Prop) (h₁ : Heap) (s : Shared) (R : Result → Shared → Prop),
  evG nm fn FT k sc g items tn en ρ (fun r' => match ev nm fn FT n' sc elt false r' with | some v => some [v] | none => none) = some vs → gens.drop dp = g.py nm fn → (vs₀ ++ vs).length ≤ listLine →
  Gd A fr base N env W T Z h₀ → Lp prog w A env W T Z tn I fp wr items en h₁ Wt At → (∀ i ∈ gsVars g, putOk sc (nm i) = true ∧ T (nm i)) → (∀ i ∈ gsVars g, ρ i = none) → (gsVars g).Nodup →
  At 0 s.heap → (∀ b o, ¬ W tn b → h₁.get? b = some o → s.heap.get? b = some o) → Tn prog w nm fr tq env sc W ρ h₀ s.heap → AccL prog w Z s.heap W vs₀ → 0 ≤ s.toks → (∀ a, (a = Z ∨ a ∈ wr ∨ Fm.at env T a) → h₀.get? a = none) →
  (∀ h' tk, s.toks ≤ tk → Kp (SS fr tq) h₀ h' → EOk prog w nm env sc h' W ρ → AccL prog w Z h' W (vs₀ ++ vs) → (∀ b o, b ≠ Z → b ∉ wr → ¬ Fm.at env T b → s.heap.get? b = some o → h'.get? b = some o) → R (.ok .next) (up s h' tk)) →
  codeAny (model prog w) A (.compLoop (.ListComp (elt.py nm fn) gens scope pos) dp (.ref I) (.ref Z) env) R s := by
 intro k
 induction k with
 | zero => intro _ g dp items tn en ρ vs vs₀ W I fp wr At Wt h₁ s R hev; exact optE hev
 | succ k ihk =>
 intro hk g dp items tn en ρ vs vs₀ W I fp wr At Wt h₁ s R hev hdrop hlen gd lp put dis nod hat kp x ac htk new hR
 cases g with
 | nil => exact optE hev
 | cons t src ifs rest =>
 obtain ⟨hg, hdrop'⟩ := drop_cons (show gens.drop dp = ⟨t.py nm, src.py nm fn, ifs.py nm fn, 0⟩ :: rest.py nm fn from hdrop)
 have put1 : ∀ i ∈ tgVars t, putOk sc (nm i) = true ∧ T (nm i) := fun i hi => put i (List.mem_append_left _ hi)
 have dis1 : ∀ i ∈ tgVars t, ρ i = none := fun i hi => dis i (List.mem_append_left _ hi)
 have hZ0 : h₀.get? Z = none := new Z (.inl rfl)
 cases rest with
 | nil =>
  refine ifE hev fun two hev => ?_
  have two := eq_of_beq two
  have hl : gens[dp + 1]? = none := by
   have : gens.drop (dp + 1) = [] := hdrop'
   exact List.getElem?_eq_none (List.drop_eq_nil_iff.mp this)
  exact loop_gen am ih (Ac := fun h vs => AccL prog w Z h W vs) (Bd := fun Qc E s => wpAny (model prog w) A (eval (elt.py nm fn) env) (fun x s₅ => wpAny (model prog w) A (call (.builtin "list.append") [.ref Z, x]) (fun _ s₆ => Qc s₆) E s₅) E s)
   rfl rfl rfl (fun s Q E h => turn_last hg hl h) (by omega) hev (body_last hn' hlen gd dis1 ih hZ0) (accL_step Z) (fun h vs q => let ⟨_, _, e, _⟩ := q; ⟨_, e⟩) gd lp put1 dis1 two hat kp x ac htk new hR
 | cons t' src' ifs' rest' =>
  refine ifE hev fun two hev => ?_
  have two := eq_of_beq two
  obtain ⟨hg', _⟩ := drop_cons (show gens.drop (dp + 1) = ⟨t'.py nm, src'.py nm fn, ifs'.py nm fn, 0⟩ :: rest'.py nm fn from hdrop')
  refine loop_gen am ih (Ac := fun h vs => AccL prog w Z h W vs) (Bd := fun Qc E s => wpAny (model prog w) A (eval (src'.py nm fn) env) (fun x s₅ => wpAny (model prog w) A (pyIter x) (fun it' s₆ =>
    codeAny (model prog w) A (.compStart (.ListComp (elt.py nm fn) gens scope pos) (dp + 1) it' (.ref Z) env) (fun r s₇ => ∃ f, r = .ok f ∧ Qc s₇) s₆) E s₅) E s)
   rfl rfl rfl (fun s Q E h => turn_more hg hg' (folded_py src') h) (by omega) hev ?_ (accL_step Z) (fun h vs q => let ⟨_, _, e, _⟩ := q; ⟨_, e⟩) gd lp put1 dis1 two hat kp x ac htk new hR
  intro d ρ' x hb hem s₄ vs' hlen' t₄ tk₄ ac₄ Qc E h
  refine Mine.I.bS hem fun items' tn' en' hsrc hem => ?_
  refine Mine.I.g0 hsrc fun k3 hk3 hsrc => ?_
  refine (sound_src am (ih k3 (by omega)) _ _ _ _ _ _ _ hsrc A fr env W s₄ (t₄.st gd tk₄)).wp fun xv h₅ tk₅ hn₅ q => (q tk₅ hn₅).wp2 fun it h₆ tk₆ hn₆ k6 q => ?_
  obtain ⟨I', fp', wr', At', rfl, hwr, hfp, hat', wk'⟩ := q
  have k6 : ∀ b o, s₄.heap.get? b = some o → h₆.get? b = some o := fun b o e => k6.out b o (fun q => Bool.false_ne_true q.1) e
  have notwr : ∀ b o, s₄.heap.get? b = some o → b ∉ wr' := fun b o e q => by rw [hwr b q] at e; cases e
  obtain ⟨σ, f, _⟩ := t₄.e.fm
  obtain ⟨us, m, hz, rs⟩ := ac₄
  have all2 : ∀ {t : Bool} {a : Addr}, W true a → W t a := fun {t a} q => by
   cases t
   ·exact gd.le a q
   ·exact q
  have W2 : ∀ t a, (W t a ∨ a ∈ wr') → W t a ∨ s₄.heap.get? a = none := fun t a q => q.imp id fun q => hwr a q
  have hloop : ∀ s₇ : Shared, s₇ = (up s₄ h₆ tk₆) → codeAny (model prog w) A (.compLoop (.ListComp (elt.py nm fn) gens scope pos) (dp + 1) (.ref I') (.ref Z) env) (fun r s₇ => ∃ f, r = .ok f ∧ Qc s₇) s₇ := by
   rintro s₇ rfl
   refine ihk (by omega) _ (dp + 1) items' tn' en' ρ' x vs' (fun t a => W t a ∨ a ∈ wr') I' fp' wr' At' (W tn') h₆ _ _ hem hdrop' (Nat.le_trans hlen' hlen) ⟨gd.cx, fun a q => .inl (gd.frW a q), fun a q => q.imp (gd.le a) id, .inl gd.DW, fun a q => .inl (gd.fmW a q), gd.DF⟩
    ⟨wk', fun a q => .inr q, fun q => ?_, fun b hb q => ?_, fun b hb q => ?_, fun a q => q.elim .inl fun q => .inr (.inl q)⟩ (fun i hi => put i (List.mem_append_right _ hi)) (fun i hi => ?_) (List.nodup_append.mp nod).2.1 hat' (fun b o _ e => e)
    ⟨t₄.keep.andThen fun b o _ e => k6 b o e, t₄.e.liftW k6 W2, fun a q => ?_⟩ ⟨us, m, k6 _ _ hz, rs.mono (fun t b o _ e => k6 b o e) W2⟩ (Nat.le_trans tk₄ (Nat.le_trans hn₅ hn₆)) (fun a q => ?_) fun h' tk' hn' keep' e' ac' k' => ⟨.next, rfl, ?_⟩
   ·rcases hfp Z q with z | z
    ·exact notwr Z _ hz z
    ·exact z (all2 gd.DW)
   ·obtain ⟨o, ho⟩ := f.alive q
    rcases hfp b hb with z | z
    ·exact notwr b o ho z
    ·exact z (all2 (gd.fmW b q))
   ·obtain ⟨o, ho⟩ := f.alive' q
    exact notwr b o ho hb
   ·have hne : i ∉ tgVars t := fun z => (List.nodup_append.mp nod).2.2 i z i hi rfl
    have hρ := dis i (List.mem_append_right _ hi)
    cases hq : ρ' i with
    | none => rfl
    | some y => exact absurd (bindTg_dom hb hq) (fun z => z.elim hne fun z => by rw [hρ] at z; cases z)
   ·rcases q with q | q
    ·obtain ⟨o, ho⟩ := t₄.al a q; exact ⟨o, k6 a o ho⟩
    ·exact wk'.1 _ _ hat' a (wk'.sub a q)
   ·rcases q with q | q | q
    ·exact new a (.inl q)
    ·exact t₄.keep.alive (hwr a q)
    ·exact new a (.inr (.inr q))
   ·refine h h' tk' (Nat.le_trans hn₅ (Nat.le_trans hn₆ hn')) keep' ((e'.weakW fun t a q => .inl q).less (bindTg_ext hb dis1)) ?_ fun b o q1 q2 e => k' b o q1 (notwr b o e) q2 (k6 b o e)
    obtain ⟨us', m', hz', rs'⟩ := ac'
    exact ⟨us', m', hz', rs'.mono (fun _ _ _ _ e => e) fun t a q => .inl (.inl q)⟩
  exact compStart_list hg' (hloop _ rfl) (self_ok (s := (up s₄ h₆ tk₆)) wk' hat' (hloop _ rfl))
end
end
section
section
variable {prog : Program} {w : World} {nm fn : Nat → Str} {FT : List FE} {base : Heap} {N : Nat} {A : Around} {fr : List Env} {env : Env} {sc : Scope} {W : Bool → Addr → Prop} {ρ : Rho} {s : Shared}
theorem varsOk_of {sc' : Scope} {gs : GS} (h : varsOk nm sc' gs = true) : (∀ i ∈ gsVars gs, putOk sc' (nm i) = true) ∧ (gsVars gs).Nodup := by
 unfold varsOk at h
 rw [Bool.and_eq_true, List.all_eq_true, decide_eq_true_iff] at h
 exact h
theorem putOk_rel {sc' : Scope} {x : Str} (h : putOk sc' x = true) : putOk (rel sc sc') x = true ∧ (sc'.names.lookup x = some .local ∨ sc'.names.lookup x = some .cell) := by
 unfold putOk at h ⊢
 rw [Bool.or_eq_true, beq_iff_eq, beq_iff_eq] at h
 refine ⟨?_, h⟩
 rw [rel_lookup]
 rcases h with h | h <;> rw [h] <;> rfl
@[reducible] noncomputable def TV (nm : Nat → Str) (gs : GS) : Str → Prop := fun x => ∃ i ∈ gsVars gs, x = nm i
@[reducible] noncomputable def WIn (W : Bool → Addr → Prop) (Z : Addr) (wr : List Addr) (F : Addr → Prop) : Bool → Addr → Prop := fun t a => W t a ∨ a = Z ∨ a ∈ wr ∨ F a
theorem WIn.el {W : Bool → Addr → Prop} {Z : Addr} {wr : List Addr} {F : Addr → Prop} {t : Bool} {a : Addr} {G : Prop} (h : WIn W Z wr F t a) (k1 : W t a → G) (k2 : a = Z → G) (k3 : a ∈ wr → G) (k4 : F a → G) : G :=
 h.elim k1 fun h => h.elim k2 fun h => h.elim k3 k4
structure Fr0 (prog : Program) (w : World) (nm : Nat → Str) (A : Around) (fr : List Env) (base : Heap) (N : Nat) (tp : Bool) (env : Env) (sc sc' : Scope) (W : Bool → Addr → Prop) (ρ : Rho) (gs : GS) (tn : Bool) (items : List D) (en : Bool) (h₀ h₂ : Heap) (I : Addr) (fp wr : List Addr) (At : Nat → Heap → Prop) (o : Obj) : Prop where
 gd : Gd A fr base N (compEnv env sc' (h₂.objs.size + 1)) (WIn W h₂.objs.size wr (Fm.at (compEnv env sc' (h₂.objs.size + 1)) (TV nm gs))) (TV nm gs) h₂.objs.size h₀
 lp : Lp prog w A (compEnv env sc' (h₂.objs.size + 1)) (WIn W h₂.objs.size wr (Fm.at (compEnv env sc' (h₂.objs.size + 1)) (TV nm gs))) (TV nm gs) h₂.objs.size tn I fp wr items en h₂ (W tn) At
 put : ∀ i ∈ gsVars gs, putOk (rel sc sc') (nm i) = true ∧ ∃ j ∈ gsVars gs, nm i = nm j
 dis : ∀ i ∈ gsVars gs, inner nm sc' ρ i = none
 hat : At 0 (compHeap (h₂.push o) sc')
 tn : Tn prog w nm fr tp (compEnv env sc' (h₂.objs.size + 1)) (rel sc sc') (WIn W h₂.objs.size wr (Fm.at (compEnv env sc' (h₂.objs.size + 1)) (TV nm gs))) (inner nm sc' ρ) h₀ (compHeap (h₂.push o) sc')
 new : ∀ a, (a = h₂.objs.size ∨ a ∈ wr ∨ Fm.at (compEnv env sc' (h₂.objs.size + 1)) (TV nm gs) a) → h₀.get? a = none
 up : ∀ b x, h₂.get? b = some x → (compHeap (h₂.push o) sc').get? b = some x
 atNew : ∀ a, Fm.at (compEnv env sc' (h₂.objs.size + 1)) (TV nm gs) a → (h₂.push o).get? a = none
 C : (h₂.push o).get? (h₂.objs.size + 1) = none
theorem fr0_ok {tp tn en : Bool} {items : List D} {sc' : Scope} {gs : GS} {h₂ : Heap} {tk₂ : Nat} {I : Addr} {fp wr : List Addr} {At : Nat → Heap → Prop} {o : Obj} (st : St (prog := prog) (w := w) (nm := nm) A fr base N env sc W ρ s)
  (hc : compOk sc sc' = true) (hv : varsOk nm sc' gs = true) (k : Kp (SS fr tp) s.heap h₂) (hn : s.toks ≤ tk₂) (hwr : ∀ b ∈ wr, s.heap.get? b = none) (hfp : ∀ b ∈ fp, b ∈ wr ∨ ¬ W tn b) (hat : At 0 h₂) (wk : Wk prog w A I fp wr items en h₂ (W tn) At) (ho : o.isFreed = false) :
  Fr0 prog w nm A fr base N tp env sc sc' W ρ gs tn items en s.heap h₂ I fp wr At o := by
 have hsc := st.e.sc
 subst hsc
 obtain ⟨hv1, hv2⟩ := varsOk_of hv
 have hsz : (h₂.push o).objs.size = h₂.objs.size + 1 := Heap.size_push ..
 have hT : ∀ x, (∃ i ∈ gsVars gs, x = nm i) → sc'.names.lookup x = some .local ∨ sc'.names.lookup x = some .cell := fun x ⟨i, hi, e⟩ => e ▸ (putOk_rel (sc := env.scope) (hv1 i hi)).2
 have cat := comp_at (h := h₂.push o) (T := fun x => ∃ i ∈ gsVars gs, x = nm i) hc hT
 rw [hsz] at cat
 have up1 : ∀ b x, h₂.get? b = some x → (h₂.push o).get? b = some x := fun b x e => Heap.get?_push_of_some _ e
 have up : ∀ b x, h₂.get? b = some x → (compHeap (h₂.push o) sc').get? b = some x := fun b x e => compHeap_keeps _ _ b x (up1 b x e)
 have none1 : ∀ a, (h₂.push o).get? a = none → h₂.get? a = none := fun a e => by
  cases q : h₂.get? a with
  | none => rfl
  | some x => rw [up1 a x q] at e; cases e
 have st₂ := st.step hn k
 have hZ : h₂.get? h₂.objs.size = none := push_none _
 have hZ' : (h₂.push o).get? h₂.objs.size = some o := Heap.get?_push_size _ ho
 have wrAl : ∀ b ∈ wr, ∃ x, h₂.get? b = some x := fun b hb => wk.1 _ _ hat b (wk.sub b hb)
 have newW : ∀ t a, (W t a ∨ a = h₂.objs.size ∨ a ∈ wr ∨ Fm.at (compEnv env sc' (h₂.objs.size + 1)) (TV nm gs) a) → W t a ∨ s.heap.get? a = none := fun t a q => q.elim .inl fun q => .inr (q.elim (fun q => q ▸ k.alive hZ) fun q => q.elim (hwr a) fun q => k.alive (none1 a (cat a q).1))
 have eIn : EOk prog w nm (compEnv env sc' (h₂.objs.size + 1)) (rel env.scope sc') (compHeap (h₂.push o) sc') (WIn W h₂.objs.size wr (Fm.at (compEnv env sc' (h₂.objs.size + 1)) (TV nm gs))) (inner nm sc' ρ) := by
  have e2 : EOk prog w nm env env.scope (h₂.push o) (fun t a => W t a ∨ a = h₂.objs.size ∨ a ∈ wr) ρ := by
   obtain ⟨σ, f, m⟩ := st.e.fm
   refine ⟨st.e.g, rfl, σ, (f.step k).step (S := fun _ => False) (Kp.of up1), fun i d t hi => ?_⟩
   obtain ⟨a, u, b, r⟩ := m i d t hi
   refine ⟨a, u, b, r.mono (fun b x hb e => up1 b x (k.out b x (fun q => hb (st.wo.fr' tp t b q)) e)) fun a q => q.elim .inl fun q => .inr (q.elim (fun q => q ▸ k.alive hZ) (hwr a))⟩
  have := comp_fm (h := h₂.push o) e2 (fun _ _ e => e) hc (WIn W h₂.objs.size wr (Fm.at (compEnv env sc' (h₂.objs.size + 1)) (TV nm gs))) fun t a q => WIn.el q (fun q => .inl (.inl q)) (fun q => .inl (.inr (.inl q))) (fun q => .inl (.inr (.inr q))) fun q => .inr (cat a q).1
  rw [hsz] at this
  exact this
 obtain ⟨σi, fi, _⟩ := eIn.fm
 have allOld : ∀ a, Fm.all (compEnv env sc' (h₂.objs.size + 1)) a → (h₂.push o).get? a = none ∨ ∃ x, s.heap.get? a = some x := fun a q => by
  obtain ⟨hk, hd, hf⟩ := compOk_of hc
  obtain ⟨c1, c2, c3⟩ := comp_cells (h := h₂.push o) (sc' := sc') env hd
  rw [hsz] at c1 c2
  rcases q with rfl | ⟨x, hx, hcx⟩
  ·left; rw [← hsz]; exact push_none _
  ·have kd : (compEnv env sc' (h₂.objs.size + 1)).kindOf x = (sc'.names.lookup x).map fun k => if (k == .free && env.scope.kind == .function && env.scope.names.lookup x == some .cell) then .cell else k := rel_lookup _ _ x
   rw [kd] at hx
   cases q : sc'.names.lookup x with
   | none => rw [q] at hx; simp at hx
   | some kk =>
    cases kk with
    | cell =>
     obtain ⟨c, a1, _, lt⟩ := c1 x q
     rw [hcx] at a1; cases a1
     left; exact Heap.get?_none_of_le (by rw [hsz]; omega)
    | free =>
     obtain ⟨σ, f, _⟩ := st.e.fm
     obtain ⟨c, hc', oc, hoc, _⟩ := f.cell x (hf (x, .free) (mem_of_lookup q) rfl)
     have := c2 x q
     rw [hcx, hc'] at this; cases this
     exact .inr ⟨oc, hoc⟩
    | _ => rw [q] at hx; simp at hx
 have atNew : ∀ a, Fm.at (compEnv env sc' (h₂.objs.size + 1)) (TV nm gs) a → (h₂.push o).get? a = none := fun a q => (cat a q).1
 have C0 : (h₂.push o).get? (h₂.objs.size + 1) = none := by rw [← hsz]; exact push_none _
 refine ⟨⟨st.cx, fun a q => .inl (st.wo.fr a q), fun a q => q.imp (st.wo.le a) id, .inr (.inl rfl), fun a q => .inr (.inr (.inr q)), fun q => ?_⟩,
  ⟨wk, fun a q => .inr (.inr (.inl q)), fun q => ?_, fun b hb q => ?_, fun b hb q => ?_, fun a q => ?_⟩, fun i hi => ⟨(putOk_rel (hv1 i hi)).1, i, hi, rfl⟩, fun i hi => ?_, wk.frame hat fun b hb x e => up b x e, ⟨?_, eIn, fun a q => ?_⟩, fun a q => ?_, up, atNew, C0⟩
 ·rcases allOld _ q with z | ⟨x, z⟩
  ·rw [hZ'] at z; cases z
  ·obtain ⟨_, e⟩ := k.all _ _ z; rw [hZ] at e; cases e
 ·rcases hfp _ q with z | z
  ·obtain ⟨x, e⟩ := wrAl _ z; rw [hZ] at e; cases e
  ·obtain ⟨x, e⟩ := wk.1 _ _ hat _ q; rw [hZ] at e; cases e
 ·obtain ⟨x, e⟩ := wk.1 _ _ hat b hb
  have := atNew b q
  rw [up1 b x e] at this; cases this
 ·obtain ⟨x, e⟩ := wrAl b hb
  rcases allOld b q with z | ⟨y, z⟩
  ·rw [up1 b x e] at z; cases z
  ·rw [hwr b hb] at z; cases z
 ·exact WIn.el q .inl (fun q => .inr (.inr (q ▸ hZ))) (fun q => .inr (.inl q)) fun q => .inr (.inr (none1 a (atNew a q)))
 ·unfold inner
  rcases (putOk_rel (sc := env.scope) (hv1 i hi)).2 with q | q <;> rw [q] <;> rfl
 ·exact k.trans (Kp.of up)
 ·exact WIn.el q (fun q => let ⟨x, e⟩ := st₂.wo.al a q; ⟨x, up a x e⟩) (fun q => ⟨o, compHeap_keeps _ _ _ _ (q ▸ hZ')⟩) (fun q => let ⟨x, e⟩ := wrAl a q; ⟨x, up a x e⟩) fun q => (cat a q).2
 ·exact q.elim (fun q => q ▸ k.alive hZ) fun q => q.elim (hwr a) fun q => k.alive (none1 a (atNew a q))
end
end
section
section
variable {prog : Program} {w : World} {nm fn : Nat → Str} {FT : List FE} {base : Heap} {N : Nat} {A : Around} {fr : List Env} {env : Env} {sc : Scope} {W : Bool → Addr → Prop} {ρ : Rho} {s : Shared}
variable (am : Am prog w nm fn FT base N) {n : Nat} (ih : SoundTo prog w nm fn FT base N n)
include am ih
theorem lcomp_core {el : X} {t : Tg} {src : X} {ifs : XS} {rest : GS} {sc' : Scope} {p : Pos} {tp : Bool} {v : V} (e : ev nm fn FT (n + 1) sc (.lcomp el (.cons t src ifs rest) sc' p) tp ρ = some v)
  (st : St (prog := prog) (w := w) (nm := nm) A fr base N env sc W ρ s) {RR : Value → Addr → Result → Shared → Prop} {E : Value → Shared → Prop}
  (hRR : ∀ Z C h' tk, s.toks ≤ tk → s.heap.get? Z = none → s.heap.get? C = none → Z ≠ C → (∃ m, h'.Ns C m) → Kp (SS fr tp) s.heap h' → R prog w h' (fun a => W false a ∨ a = C) (.ref Z) v.1 → v.2 = false → RR (.ref Z) C (.ok .next) (up s h' tk)) :
  wpAny (model prog w) A (eval (src.py nm fn) env) (fun x s₁ => wpAny (model prog w) A (pyIter x) (fun it s₂ => wpAny (model prog w) A (newList []) (fun acc s₃ => wpAny (model prog w) A (newFunctionEnv sc' env.globals (clos env sc'.names []) [] env.qual none .none (some env)) (fun cenv s₄ =>
   codeAny (model prog w) A (.compStart (.ListComp (el.py nm fn) ((GS.cons t src ifs rest).py nm fn) sc' p) 0 it acc { cenv with scope := relabel sc' env }) (RR acc cenv.locals) s₄) E s₃) E s₂) E s₁) E s := by
 revert hRR
 refine Mine.I.lcomp e ?_
 intro hc hv items tn en vs hsrc hG hz hu hRR
 refine Mine.I.g0 hsrc fun k3 hk3 hsrc => ?_
 refine (sound_src am (ih k3 (by omega)) _ _ _ _ _ _ _ hsrc A fr env W s st).wp fun xv h₁ tk₁ hn₁ q => (q tk₁ hn₁).wp2 fun it h₂ tk₂ hn₂ k2 q => ?_
 refine gg fun G₀ kk => ?_
 obtain ⟨I, fp, wr, At, rfl, hwr, hfp, hat, wk⟩ := q
 refine kk ?_
 have fz := fr0_ok (o := { cls := .type "list", data := .seq ([] : List Value).toArray }) st hc hv k2 (Nat.le_trans hn₁ hn₂) hwr hfp hat wk rfl
 refine wpAny_newList ?_
 refine newEnv_ok ?_
 dsimp only
 rw [show (h₂.push { cls := .type "list", data := .seq ([] : List Value).toArray }).objs.size = h₂.objs.size + 1 from Heap.size_push ..]
 have hloop : ∀ s₇ : Shared, s₇ = { s with heap := compHeap (h₂.push { cls := .type "list", data := .seq ([] : List Value).toArray }) sc', toks := tk₂ } →
   codeAny (model prog w) A (.compLoop (.ListComp (el.py nm fn) ((GS.cons t src ifs rest).py nm fn) sc' p) 0 (.ref I) (.ref h₂.objs.size) (compEnv env sc' (h₂.objs.size + 1))) (RR (.ref h₂.objs.size) (h₂.objs.size + 1)) s₇ := by
  rintro s₇ rfl
  refine loop_list am ih (elt := el) (n' := n) (Nat.le_refl _) n (Nat.le_succ _) (.cons t src ifs rest) 0 items tn en _ vs [] _ I fp wr At (W tn) h₂ _ _ hG rfl hz fz.gd fz.lp fz.put fz.dis (varsOk_of hv).2 fz.hat (fun b o _ e => fz.up b o e) fz.tn
   ⟨[], 0, compHeap_keeps _ _ _ _ (Heap.get?_push_size _ rfl), .nil⟩ (Nat.le_trans st.tk (Nat.le_trans hn₁ hn₂)) fz.new fun h' tk' hn' keep' e' ac' k' => ?_
  obtain ⟨us, m, hZ, rs⟩ := ac'
  obtain ⟨σ, f, _⟩ := e'.fm
  obtain ⟨mm, hns, _⟩ := f.ns
  refine hRR _ _ h' tk' (Nat.le_trans (Nat.le_trans hn₁ hn₂) hn') (k2.alive (push_none _)) (k2.alive ?_) (Nat.ne_of_lt (Nat.lt_succ_self _)) ⟨mm, hns⟩ keep' ?_ rfl
  ·exact Heap.get?_none_of_le (Nat.le_succ _)
  ·have hrl : ∀ {us : List Value} {vs : List V}, RVs prog w h' (WIn W h₂.objs.size wr (Fm.at (compEnv env sc' (h₂.objs.size + 1)) (TV nm (.cons t src ifs rest)))) us vs → untaint vs = true →
     RL prog w h' (fun a => W false a ∨ a = h₂.objs.size + 1) us (vs.map (·.1)) := fun {us vs} r => by
    intro hu
    induction r with
    | nil => exact .nil
    | @cons u us v vs r _ ih =>
     have hu' : v.2 = false ∧ untaint vs = true := by simpa [untaint] using hu
     refine .cons (r.mono (fun _ _ _ e => e) fun a q => .inl ?_) (ih hu'.2)
     rw [hu'.1]
     rcases q with q | q
     ·exact .inl q
     ·exact .inr (.inr (.inr (.inl q)))
   refine .lst (fun q => ?_) hZ (hrl rs hu)
   rcases q with q | q
   ·exact (st.step (Nat.le_trans hn₁ hn₂) k2).wo.new false (push_none _) q
   ·exact absurd q (Nat.ne_of_lt (Nat.lt_succ_self _))
 exact compStart_list (gens := (GS.cons t src ifs rest).py nm fn) rfl (hloop _ rfl) (self_ok (s := { s with heap := compHeap (h₂.push { cls := .type "list", data := .seq ([] : List Value).toArray }) sc', toks := tk₂ }) wk fz.hat (hloop _ rfl))
theorem ev_lcomp (el : X) (gs : GS) (sc' : Scope) (p : Pos) : EvOk prog w nm fn FT base N n (.lcomp el gs sc' p) := by
 intro sc tp ρ v e A fr env W s st
 have hc : compOk sc sc' = true := I.lcomp (m := fun _ => compOk sc sc' = true) e fun hc _ _ _ _ _ _ _ _ _ => hc
 cases gs with
 | nil => exact I.lcomp e fun _ _ _ _ _ _ h => by cases n <;> exact optE h
 | cons t src ifs rest =>
 have hsc := st.e.sc
 obtain ⟨σ, f, _⟩ := st.e.fm
 show wpAny _ A (eval (.ListComp (el.py nm fn) (⟨t.py nm, src.py nm fn, ifs.py nm fn, 0⟩ :: rest.py nm fn) sc' p) env) _ _ s
 rw [eval_ListComp]
 obtain ⟨hk, hd, hf⟩ := compOk_of hc
 refine wpAny_comprehension_free (use := none) rfl (fun x => folded_py src x) (closureFor_eq (compFree f (hsc ▸ hc))) hk (fun x hx hl => mem_lookup hd (by rw [← hl]; exact hx)) ?_
 refine lcomp_core am ih e st (RR := fun acc C => compPost (model prog w) A (fun _ _ => False) none _ acc C) fun Z C h' tk hn hZ hC hne hns k r ht => ?_
 obtain ⟨m, hm⟩ := hns
 refine ⟨m, hm, fun h'' hs => ⟨h'', tk, rfl, k.sameBut hs hC, ?_⟩⟩
 rw [ht]
 exact r.mono (fun b o hb e => (hs.2 b fun q => hb (.inr q)).trans e) fun a q => .inl (.inl q)
end
end
section
section
variable {prog : Program} {w : World}
theorem stored_cons_eq {k x : Str} {u v : Value} {r : List (Str × Value)} (hd : ((k, u) :: r |>.map (·.1)).Nodup) (e : k = x) : stored ((k, u) :: r) x v = (k, v) :: r := by
 subst e
 unfold stored
 rw [List.map_cons, List.nodup_cons] at hd
 have h1 : (((k, u) :: r).any fun kv => decide (kv.1 = k)) = true := by simp
 rw [if_pos h1, List.map_cons, if_pos rfl]
 congr 1
 conv => rhs; rw [← List.map_id r]
 apply List.map_congr_left
 rintro ⟨a, b⟩ hm
 have : a ≠ k := by rintro rfl; exact hd.1 (List.mem_map.mpr ⟨_, hm, rfl⟩)
 simp [this]
theorem stored_cons_ne {k x : Str} {u v : Value} {r : List (Str × Value)} (e : k ≠ x) : stored ((k, u) :: r) x v = (k, u) :: stored r x v := by
 unfold stored
 have h1 : (((k, u) :: r).any fun kv => decide (kv.1 = x)) = r.any fun kv => decide (kv.1 = x) := by simp [e]
 rw [h1]
 cases r.any fun kv => decide (kv.1 = x) with
 | true =>
  rw [if_pos rfl, if_pos rfl, List.map_cons]
  congr 1
  exact if_neg e
 | false => rw [if_neg (by simp), if_neg (by simp)]; rfl
theorem storeD_ok {h : Heap} {W : Addr → Prop} {x : Str} {v : Value} {d : D} (rv : R prog w h W v d) : ∀ {kvs : List (Str × Value)} {ds : List D}, RL prog w h W (kvs.map (·.2)) ds → (kvs.map (·.1)).Nodup →
  (stored kvs x v).map (·.1) = (storeD (kvs.map (·.1)) ds x d).1 ∧ RL prog w h W ((stored kvs x v).map (·.2)) (storeD (kvs.map (·.1)) ds x d).2
 | [], ds, r, _ => by cases r; exact ⟨rfl, .cons rv .nil⟩
 | (k, u) :: kvs, [], r, hd => nomatch r
 | (k, u) :: kvs, d' :: ds, .cons r1 r2, hd => by
  have eq : ∀ (k x : Str) ks ds, storeD (k :: ks) (d' :: ds) x d = if k = x then (k :: ks, d :: ds) else (k :: (storeD ks ds x d).1, d' :: (storeD ks ds x d).2) := fun _ _ _ _ => rfl
  rw [List.map_cons, eq]
  by_cases e : k = x
  ·rw [stored_cons_eq hd e, if_pos e]
   exact ⟨rfl, .cons rv r2⟩
  ·rw [stored_cons_ne e, if_neg e]
   obtain ⟨a, b⟩ := storeD_ok rv (x := x) r2 (List.nodup_cons.mp hd).2
   exact ⟨congrArg (k :: ·) a, .cons r1 b⟩
theorem putAll_snoc (ps : List (Str × D)) (p : Str × D) : putAll (ps ++ [p]) = storeD (putAll ps).1 (putAll ps).2 p.1 p.2 := by
 unfold putAll; rw [List.foldl_append]; rfl
noncomputable def pairV (p : Str × D) : V := (.tup [.str p.1, p.2], false)
theorem kvsOf_pairs : ∀ ps : List (Str × D), kvsOf ((ps.map pairV).map (·.1)) = some ps
 | [] => rfl
 | p :: ps => by
  show (kvsOf ((ps.map pairV).map (·.1))).map ((p.1, p.2) :: ·) = _
  rw [kvsOf_pairs ps]; rfl
noncomputable def AcD (prog : Program) (w : World) (Z : Addr) (h : Heap) (Wf : Addr → Prop) (vs : List V) : Prop :=
 ∃ (ps : List (Str × D)) (kvs : List (Str × Value)), vs = ps.map pairV ∧ h.DictOf (strKind prog w) Z kvs ∧ kvs.length ≤ vs.length ∧ kvs.map (·.1) = (putAll ps).1 ∧ RL prog w h Wf (kvs.map (·.2)) (putAll ps).2
theorem stored_len (kvs : List (Str × Value)) (x : Str) (v : Value) : (stored kvs x v).length ≤ kvs.length + 1 := by
 unfold stored; split <;> simp
end
section
variable {prog : Program} {w : World} {nm fn : Nat → Str} {FT : List FE} {base : Heap} {N : Nat} {A : Around} {fr : List Env} {env : Env} {sc : Scope} {W : Bool → Addr → Prop} {ρ : Rho} {s : Shared}
theorem acD_step (Z : Addr) : ∀ (h h' : Heap) (vs : List V), AcD prog w Z h (W false) vs → (∀ o, h.get? Z = some o → h'.get? Z = some o) → (∀ t b o, ¬ W t b → h.get? b = some o → h'.get? b = some o) → AcD prog w Z h' (W false) vs := by
 rintro h h' vs ⟨ps, kvs, e1, ⟨o, es, ep, ho, r⟩, e3, e4, e5⟩ hz hk
 exact ⟨ps, kvs, e1, ⟨o, es, ep, hz _ ho, r⟩, e3, e4, e5.mono (fun b o hb e => hk false b o hb e) fun a q => .inl q⟩
variable (am : Am prog w nm fn FT base N) {n : Nat} (ih : SoundTo prog w nm fn FT base N n)
theorem body_dict {tq : Bool} {kx vx : X} {n' : Nat} (hn' : n' ≤ n) {T : Str → Prop} {Z : Addr} {h₀ : Heap} {tg : Tg} {tn : Bool} {vs vs₀ : List V} (hvs : (vs₀ ++ vs).length ≤ listLine)
  (g : Gd A fr base N env W T Z h₀) (dis : ∀ i ∈ tgVars tg, ρ i = none) (ih : SoundTo prog w nm fn FT base N n) (hZ0 : h₀.get? Z = none) :
  ∀ d ρ' x, bindTg tg (itV d tn) ρ = some ρ' → (match ev nm fn FT n' sc kx false ρ', ev nm fn FT n' sc vx false ρ' with
     | some (.str x, _), some (d, false) => some [(D.tup [.str x, d], false)]
     | _, _ => none) = some x → ∀ (s₄ : Shared) vs', (vs' ++ x).length ≤ (vs₀ ++ vs).length →
   Tn prog w nm fr tq env sc W ρ' h₀ s₄.heap → 0 ≤ s₄.toks → AcD prog w Z s₄.heap (W false) vs' → ∀ (Qc : Shared → Prop) E,
   (∀ h₅ tk, s₄.toks ≤ tk → Kp (SS fr tq) h₀ h₅ → EOk prog w nm env sc h₅ W ρ → AcD prog w Z h₅ (W false) (vs' ++ x) → (∀ b o, b ≠ Z → ¬ Fm.at env T b → s₄.heap.get? b = some o → h₅.get? b = some o) → Qc (up s₄ h₅ tk)) →
   wpAny (model prog w) A (eval (kx.py nm fn) env) (fun x s₅ => wpAny (model prog w) A (eval (vx.py nm fn) env) (fun y s₆ => wpAny (model prog w) A (dictSet Z x y) (fun _ s₇ => Qc s₇) E s₆) E s₅) E s₄ := by
 intro d ρ' x hb hem s₄ vs' hlen t₄ tk₄ ac Qc E h
 refine I.mSF hem fun xs tx dv hv1 hv2 hem => ?_
 rw [← Option.some.inj hem] at hlen h
 refine (ih n' hn').k hv1 (t₄.st g tk₄) fun u h₅ tk₅ hn₅ k r st₅ => (ih n' hn').k hv2 st₅ fun u2 h₆ tk₆ hn₆ k2 r2 st₆ => R.strE r fun t => ?_
 have k : ∀ b o, s₄.heap.get? b = some o → h₆.get? b = some o := fun b o e => k2.out b o (fun q => Bool.false_ne_true q.1) (k.out b o (fun q => Bool.false_ne_true q.1) e)
 refine gg fun G₀ kk => ?_
 obtain ⟨ps, kvs, rfl, hd, hl, hks, hrl⟩ := acD_step (W := W) Z _ _ _ ac (fun o e => k Z o e) fun t b o _ e => k b o e
 refine kk ?_
 have hnd : (kvs.map (·.1)).Nodup := by obtain ⟨_, _, _, _, _, _, _, _, q⟩ := hd; exact q
 have hst := storeD_ok r2 (x := xs) hrl hnd
 rw [hks, ← putAll_snoc ps (xs, dv)] at hst
 have hle : (ps.map pairV).length + 1 ≤ 100000 := by rw [List.length_append] at hlen; exact Nat.le_trans hlen hvs
 refine wpAny_dictSet_pairs (strKind_is prog w _ _) hd (fun h₇ hd' hs => ?_) (by rw [sizeLine_eq]; omega)
 have k7 : ∀ b o, b ≠ Z → h₆.get? b = some o → h₇.get? b = some o := fun b o hb e => (hs.2 b hb).trans e
 have kw : ∀ t b o, ¬ W t b → h₆.get? b = some o → h₇.get? b = some o := fun t b o hw e => k7 b o (fun q => hw (by rw [q]; cases t; exact g.le _ g.DW; exact g.DW)) e
 exact h h₇ _ (Nat.le_trans hn₅ (Nat.le_succ_of_le hn₆)) (t₄.keep.andThen fun b o e0 e => k7 b o (fun q => e0 (by rw [q, hZ0])) (k b o e)) ((st₆.e.keep (fun a o q e => k7 a o (fun z => g.DF (z ▸ q)) e) kw).less (bindTg_ext hb dis))
  ⟨ps ++ [(xs, dv)], stored kvs xs u2, by rw [List.map_append]; rfl, hd', by rw [List.length_append]; exact Nat.le_trans (stored_len kvs xs u2) (Nat.add_le_add_right hl 1), hst.1, hst.2.mono (fun b o hb e => kw false b o hb e) fun a q => .inl q⟩ fun b o q1 _ e => k7 b o q1 (k b o e)
include am ih
theorem dcomp_core {kx vx : X} {t : Tg} {src : X} {ifs : XS} {sc' : Scope} {p : Pos} {tp : Bool} {v : V} (e : ev nm fn FT (n + 1) sc (.dcomp kx vx (.cons t src ifs .nil) sc' p) tp ρ = some v)
  (st : St (prog := prog) (w := w) (nm := nm) A fr base N env sc W ρ s) {RR : Value → Addr → Result → Shared → Prop} {E : Value → Shared → Prop}
  (hRR : ∀ Z C h' tk, s.toks ≤ tk → s.heap.get? Z = none → s.heap.get? C = none → Z ≠ C → (∃ m, h'.Ns C m) → Kp (SS fr tp) s.heap h' → R prog w h' (fun a => W false a ∨ a = C) (.ref Z) v.1 → v.2 = false → RR (.ref Z) C (.ok .next) (up s h' tk)) :
  wpAny (model prog w) A (eval (src.py nm fn) env) (fun x s₁ => wpAny (model prog w) A (pyIter x) (fun it s₂ => wpAny (model prog w) A newDict (fun acc s₃ => wpAny (model prog w) A (newFunctionEnv sc' env.globals (clos env sc'.names []) [] env.qual none .none (some env)) (fun cenv s₄ =>
   codeAny (model prog w) A (.compStart (.DictComp (kx.py nm fn) (vx.py nm fn) ((GS.cons t src ifs .nil).py nm fn) sc' p) 0 it acc { cenv with scope := relabel sc' env }) (RR acc cenv.locals) s₄) E s₃) E s₂) E s₁) E s := by
 revert hRR
 refine Mine.I.dcomp e ?_
 intro hc hv _ items tn en vs kvs0 hsrc hG hz hkv hRR
 refine Mine.I.g0 hsrc fun k3 hk3 hsrc => ?_
 refine (sound_src am (ih k3 (by omega)) _ _ _ _ _ _ _ hsrc A fr env W s st).wp fun xv h₁ tk₁ hn₁ q => (q tk₁ hn₁).wp2 fun it h₂ tk₂ hn₂ k2 q => ?_
 refine gg fun G₀ kk => ?_
 obtain ⟨I, fp, wr, At, rfl, hwr, hfp, hat, wk⟩ := q
 refine kk ?_
 have fz := fr0_ok (o := { cls := .type "dict", data := .dict #[] }) st hc hv k2 (Nat.le_trans hn₁ hn₂) hwr hfp hat wk rfl
 refine wpAny_newObj_type ?_
 refine newEnv_ok ?_
 dsimp only
 rw [show (h₂.push { cls := .type "dict", data := .dict #[] }).objs.size = h₂.objs.size + 1 from Heap.size_push ..]
 refine Mine.I.g1 hG fun n₀ hn₀ two hG => ?_
 have hgv : gsVars (.cons t src ifs .nil) = tgVars t := List.append_nil _
 have hloop : ∀ s₇ : Shared, s₇ = { s with heap := compHeap (h₂.push { cls := .type "dict", data := .dict #[] }) sc', toks := tk₂ } →
   codeAny (model prog w) A (.compLoop (.DictComp (kx.py nm fn) (vx.py nm fn) [⟨t.py nm, src.py nm fn, ifs.py nm fn, 0⟩] sc' p) 0 (.ref I) (.ref h₂.objs.size) (compEnv env sc' (h₂.objs.size + 1))) (RR (.ref h₂.objs.size) (h₂.objs.size + 1)) s₇ := by
  rintro s₇ rfl
  refine loop_gen am ih (Ac := fun h vs => AcD prog w h₂.objs.size h _ vs) (vs₀ := []) (Bd := fun Qc E s => wpAny (model prog w) A (eval (kx.py nm fn) _) (fun x s₅ => wpAny (model prog w) A (eval (vx.py nm fn) _) (fun y s₆ => wpAny (model prog w) A (dictSet h₂.objs.size x y) (fun _ s₇ => Qc s₇) E s₆) E s₅) E s)
   rfl rfl rfl (fun s Q E h => turn_dict h) (k := n₀) (by omega) hG (body_dict (vs₀ := []) (n' := n) (Nat.le_refl _) hz fz.gd (fun i hi => fz.dis i (by rw [hgv]; exact hi)) ih (fz.new _ (.inl rfl))) (acD_step (W := WIn W h₂.objs.size wr (Fm.at (compEnv env sc' (h₂.objs.size + 1)) (TV nm (.cons t src ifs .nil)))) _) (fun h vs q => let ⟨_, _, _, ⟨_, _, _, e, _⟩, _⟩ := q; ⟨_, e⟩) fz.gd fz.lp (fun i hi => fz.put i (by rw [hgv]; exact hi)) (fun i hi => fz.dis i (by rw [hgv]; exact hi)) two fz.hat (fun b o _ e => fz.up b o e) fz.tn
   ⟨[], [], rfl, ?_, Nat.le_refl _, rfl, .nil⟩ (Nat.le_trans st.tk (Nat.le_trans hn₁ hn₂)) fz.new fun h' tk' hn' keep' e' ac' k' => ?_
  ·exact (Heap.DictOf.new h₂).keep fun b o e => compHeap_keeps _ _ b o e
  ·obtain ⟨ps, kvs, hvs, hd, hl, hks, hrl⟩ := ac'
   obtain ⟨σ, f, _⟩ := e'.fm
   obtain ⟨mm, hns, _⟩ := f.ns
   have hps : kvs0 = ps := by
    rw [List.nil_append] at hvs
    rw [hvs, kvsOf_pairs] at hkv; cases hkv; rfl
   subst hps
   refine hRR _ _ h' tk' (Nat.le_trans (Nat.le_trans hn₁ hn₂) hn') (k2.alive (push_none _)) (k2.alive (Heap.get?_none_of_le (Nat.le_succ _))) (Nat.ne_of_lt (Nat.lt_succ_self _)) ⟨mm, hns⟩ keep' ?_ rfl
   refine .dct (fun q => ?_) (st.step (Nat.le_trans hn₁ hn₂) k2).low hd hks.symm (hrl.mono (fun _ _ _ e => e) fun a q => .inl ?_)
   ·rcases q with q | q
    ·exact (st.step (Nat.le_trans hn₁ hn₂) k2).wo.new false (push_none _) q
    ·exact absurd q (Nat.ne_of_lt (Nat.lt_succ_self _))
   ·rcases q with q | q
    ·exact .inl q
    ·exact .inr (.inr (.inr (.inl q)))
 exact compStart_dict (gens := (GS.cons t src ifs .nil).py nm fn) rfl (hloop _ rfl) (self_ok (s := { s with heap := compHeap (h₂.push { cls := .type "dict", data := .dict #[] }) sc', toks := tk₂ }) wk fz.hat (hloop _ rfl))
theorem ev_dcomp (kx vx : X) (gs : GS) (sc' : Scope) (p : Pos) : EvOk prog w nm fn FT base N n (.dcomp kx vx gs sc' p) := by
 intro sc tp ρ v e A fr env W s st
 have hg : compOk sc sc' = true ∧ gs.single = true := I.dcomp (m := fun _ => compOk sc sc' = true ∧ gs.single = true) e fun hc _ hs _ _ _ _ _ _ _ _ _ => ⟨hc, hs⟩
 obtain ⟨hc, hsg⟩ := hg
 rcases gs with _ | ⟨t, src, ifs, _ | _⟩
 ·cases hsg
 rotate_left
 ·cases hsg
 have hsc := st.e.sc
 obtain ⟨σ, f, _⟩ := st.e.fm
 show wpAny _ A (comprehension (.DictComp (kx.py nm fn) (vx.py nm fn) [⟨t.py nm, src.py nm fn, ifs.py nm fn, 0⟩] sc' p) sc' env (firstIterPos [⟨t.py nm, src.py nm fn, ifs.py nm fn, 0⟩] p) newDict (firstAsync [⟨t.py nm, src.py nm fn, ifs.py nm fn, 0⟩]) (firstIter [⟨t.py nm, src.py nm fn, ifs.py nm fn, 0⟩] env)) _ _ s
 obtain ⟨hk, hd, hf⟩ := compOk_of hc
 refine wpAny_comprehension_free (use := none) rfl (fun x => folded_py src x) (closureFor_eq (compFree f (hsc ▸ hc))) hk (fun x hx hl => mem_lookup hd (by rw [← hl]; exact hx)) ?_
 refine dcomp_core am ih e st (RR := fun acc C => compPost (model prog w) A (fun _ _ => False) none _ acc C) fun Z C h' tk hn hZ hC hne hns k r ht => ?_
 obtain ⟨m, hm⟩ := hns
 refine ⟨m, hm, fun h'' hs => ⟨h'', tk, rfl, k.sameBut hs hC, ?_⟩⟩
 rw [ht]
 exact r.mono (fun b o hb e => (hs.2 b fun q => hb (.inr q)).trans e) fun a q => .inl (.inl q)
end
end
section
section
variable {prog : Program} {w : World} {nm fn : Nat → Str} {FT : List FE} {base : Heap} {N : Nat}
theorem sound (am : Am prog w nm fn FT base N) : ∀ n, SoundTo prog w nm fn FT base N n := by
 intro n
 induction n with
 | zero =>
  intro m hm
  have : m = 0 := by omega
  subst this
  exact ⟨fun _ _ _ _ _ h => optE h, fun _ _ _ _ _ h => optE h, fun _ _ _ _ _ _ h => optE h, fun _ _ _ _ _ h => optE h, fun _ _ _ _ _ h => optE h⟩
 | succ n ihn =>
  intro m hm
  by_cases h : m ≤ n
  ·exact ihn m h
  have : m = n + 1 := by omega
  subst this
  have ih := ihn n (Nat.le_refl _)
  refine ⟨fun sc e tp ρ v he => ?_, sound_evs ih, sound_evP ih, sound_evO ih, sound_evT ih⟩
  cases e with
  | var i p => exact ev_var am i p sc tp ρ v he
  | int i k p =>
   intro A fr env W s st
   exact someE he (wpAny_Constant_int (fin ⟨Kp.refl, .int _ _⟩))
  | str i k p =>
   intro A fr env W s st
   exact someE he (wpAny_Constant_str (fin ⟨Kp.refl, .str _ _⟩))
  | bool i k p =>
   intro A fr env W s st
   exact someE he (wpAny_Constant_bool (fin ⟨Kp.refl, .bool _⟩))
  | neg a p => exact ev_neg ih a p sc tp ρ v he
  | bin op a b p => exact ev_bin ih op a b p sc tp ρ v he
  | cmp op a b p => exact ev_cmp ih op a b p sc tp ρ v he
  | ite t a b p => exact ev_ite ih t a b p sc tp ρ v he
  | not => exact optE he
  | and => exact optE he
  | or => exact optE he
  | item a b p => exact ev_item ih a b p sc tp ρ v he
  | slice a lo hi ps p => exact ev_slice ih a lo hi ps p sc tp ρ v he
  | rev a k pc pn ps p => exact ev_rev ih a k pc pn ps p sc tp ρ v he
  | list es p => exact ev_list ih es p sc tp ρ v he
  | tup es k p => exact ev_tup ih es k p sc tp ρ v he
  | dict ks vs p => exact ev_dict ih ks vs p sc tp ρ v he
  | lcomp e gs sc' p => exact ev_lcomp am ihn e gs sc' p sc tp ρ v he
  | dcomp k x gs sc' p => exact ev_dcomp am ihn k x gs sc' p sc tp ρ v he
  | call f fp as p => exact ev_call am ih f fp as p sc tp ρ v he
  | bi b fp as p => exact ev_bi am ih b fp as p sc tp ρ v he
  | meth m o ap as p => exact ev_meth am ih m o ap as p sc tp ρ v he
  | isSB e p1 p2 p3 k p4 p => exact ev_isSB am ih e p1 p2 p3 k p4 p sc tp ρ v he
  | isB e p1 p2 p => exact ev_isB am ih e p1 p2 p sc tp ρ v he
end
end
section
set_option genSizeOf false
set_option genSizeOfSpec false
set_option genInjectivity false
set_option genCtorIdx false
mutual
inductive Sm
 | asg (i : Nat) (pi : Pos) (e : X) (p : Pos)
 | own (i : Nat) (pi : Pos) (e : X) (p : Pos)
 | unp (ts : List (Nat × Pos)) (k : Nat) (pt : Pos) (e : X) (p : Pos)
 | aug (i : Nat) (pi : Pos) (op : BOp) (e : X) (p : Pos)
 | ext (i : Nat) (pi : Pos) (e : X) (p : Pos)
 | augI (i : Nat) (pi : Pos) (k : X) (ps : Pos) (op : BOp) (e : X) (p : Pos)
 | setI (i : Nat) (pi : Pos) (k : X) (ps : Pos) (e : X) (p : Pos)
 | app (i : Nat) (pi pa : Pos) (e : X) (pc p : Pos)
 | ite (t : X) (a b : Bl) (p : Pos)
 | for (tg : Tg) (src : X) (body : Bl) (p : Pos)
 | whl (t : X) (body : Bl) (p : Pos)
 | ret (e : X) (p : Pos)
 | tri (body : Bl) (h : ExceptHandler) (hs : List ExceptHandler) (p : Pos)
 | frz (i : Nat)
 | repIf (i : Nat) (y : Str) (k0 : Nat) (q1 q2 q3 q4 q5 q6 : Pos) (k1 : Nat) (q7 : Pos) (z : Str) (k2 : Nat) (q8 q9 q10 q11 : Pos)
 | raw (s : Stmt)
inductive Bl
 | nil
 | cons (a : Sm) (r : Bl)
end
section
variable (nm fn : Nat → Str)
mutual
noncomputable def Sm.py : Sm → List Stmt
 | .asg i pi e p => [.Assign [.Name (nm i) pi] (e.py nm fn) p]
 | .own i pi e p => [.Assign [.Name (nm i) pi] (e.py nm fn) p]
 | .unp ts k pt e p => [.Assign [.Tuple (ts.map fun t => .Name (nm t.1) t.2) k pt] (e.py nm fn) p]
 | .aug i pi op e p => [.AugAssign (.Name (nm i) pi) op.py (e.py nm fn) p]
 | .ext i pi e p => [.AugAssign (.Name (nm i) pi) .Add (e.py nm fn) p]
 | .augI i pi k ps op e p => [.AugAssign (.Subscript (.Name (nm i) pi) (k.py nm fn) ps) op.py (e.py nm fn) p]
 | .setI i pi k ps e p => [.Assign [.Subscript (.Name (nm i) pi) (k.py nm fn) ps] (e.py nm fn) p]
 | .app i pi pa e pc p => [.Expr (.Call (.Attribute (.Name (nm i) pi) "append" pa) [e.py nm fn] [] pc) p]
 | .ite t a b p => [.If (t.py nm fn) a.py b.py p]
 | .for tg src body p => [.For (tg.py nm) (src.py nm fn) body.py [] p]
 | .whl t body p => [.While (t.py nm fn) body.py [] p]
 | .ret e p => [.Return (some (e.py nm fn)) p]
 | .tri body h hs p => [.Try body.py (h :: hs) [] [] p]
 | .frz _ => []
 | .repIf i y k0 q1 q2 q3 q4 q5 q6 k1 q7 z k2 q8 q9 q10 q11 => [.If (.Compare (.Constant (.str y) k0 q1) [.In] [.Name (nm i) q2] q3) [.Assign [.Name (nm i) q4] (.Call (.Attribute (.Name (nm i) q5) "replace" q6) [.Constant (.str y) k1 q7, .Constant (.str z) k2 q8] [] q9) q10] [] q11]
 | .raw s => [s]
noncomputable def Bl.py : Bl → List Stmt
 | .nil => []
 | .cons a r => a.py ++ r.py
end
end
set_option genCtorIdx true
inductive Slot
 | fr (d : D)
 | li (ds : List D)
 | di (ks : List Str) (ds : List D)
noncomputable def Slot.d : Slot → D
 | .fr d => d | .li ds => .lst ds | .di ks ds => .dct ks ds
noncomputable def Slot.own : Slot → Bool
 | .fr _ => false | _ => true
abbrev Sta := Nat → Option Slot
noncomputable def rhoOf (S : Sta) : Rho := fun i => match S i with
 | some sl => some (sl.d, sl.own)
 | none => none
noncomputable def rhoT (S : Sta) : Rho := fun i => match S i with
 | some sl => some (itV sl.d true)
 | none => none
noncomputable def Sta.put (S : Sta) (i : Nat) (sl : Slot) : Sta := fun k => if k = i then some sl else S k
inductive Fl | next | ret (d : D)
noncomputable def slotOf : D → Option Slot
 | .lst ds => if ds.all D.atom then some (.li ds) else none
 | .dct ks ds => if ds.all D.atom then some (.di ks ds) else none
 | _ => none
noncomputable def putMany (S : Sta) : List (Nat × Pos) → List D → Option Sta
 | [], [] => some S
 | t :: ts, d :: ds => putMany (S.put t.1 (.fr d)) ts ds
 | _, _ => none
noncomputable def setSlot (sl : Slot) (k d : D) : Option Slot := match sl, k with
 | .li ds, .int j => if 0 ≤ j ∧ j < ds.length ∧ ds.length ≤ listLine ∧ d.atom then some (.li (ds.set j.toNat d)) else none
 | .di ks ds, .str x => if ks.length ≤ listLine ∧ d.atom then (let m := storeD ks ds x d; some (.di m.1 m.2)) else none
 | _, _ => none
noncomputable def bindS (tg : Tg) (d : D) (S : Sta) : Option Sta := match tg with
 | .one i _ => some (S.put i (.fr d))
 | .two i _ j _ _ _ => match d with
  | .tup [a, b] => some ((S.put i (.fr a)).put j (.fr b))
  | _ => none
noncomputable def mutOp : BOp → Bool
 | .add | .sub => true
 | _ => false
noncomputable def notTup : X → Bool
 | .tup .. => false
 | _ => true
section
variable (nm fn : Nat → Str) (FT : List FE) (sc : Scope) (tp : Bool)
noncomputable def putK (i : Nat) : Bool := putOk sc (nm i)
noncomputable def swapOk (i : Nat) (e : X) : Bool := match e with
 | .lcomp _ _ sc' _ => !(sc'.names.any fun (n, k) => n == nm i && (k == .local || k == .cell))
 | .dcomp _ _ _ sc' _ => !(sc'.names.any fun (n, k) => n == nm i && (k == .local || k == .cell))
 | _ => true
noncomputable def loopF (f : Sta → Option (Fl × Sta)) (tg : Tg) : List D → Sta → Option (Fl × Sta)
 | [], S => some (.next, S)
 | d :: r, S => match bindS tg d S with
  | some S₁ => match f S₁ with
   | some (.next, S₂) => loopF f tg r S₂
   | some (.ret v, S₂) => some (.ret v, S₂)
   | none => none
  | none => none
mutual
noncomputable def exS : Nat → Sm → Sta → Option (Fl × Sta)
 | 0, _, _ => none
 | n + 1, st, S => match st with
  | .asg i _ e _ => match ev nm fn FT n sc e tp (rhoOf S) with
   | some (d, false) => if putK nm sc i && swapOk nm i e then some (.next, S.put i (.fr d)) else none
   | _ => none
  | .own i _ e _ => match ev nm fn FT n sc e tp (rhoT S) with
   | some (d, false) => if putK nm sc i && swapOk nm i e then (slotOf d).map fun sl => (.next, S.put i sl) else none
   | _ => none
  | .unp ts _ _ e _ => match ev nm fn FT n sc e tp (rhoOf S) with
   | some (.tup ds, false) => if notTup e && ts.all (fun t => putK nm sc t.1) && decide ((ts.map (·.1)).Nodup) then (putMany S ts ds).map fun S' => (.next, S') else none
   | _ => none
  | .aug i _ op e _ => match S i, ev nm fn FT n sc e tp (rhoOf S) with
   | some (.fr a), some (b, _) => if putK nm sc i && mutOp op && a.atom then match binD op a b with
    | some d => some (.next, S.put i (.fr d))
    | none => none else none
   | _, _ => none
  | .ext i _ e _ => match S i, ev nm fn FT n sc e tp (rhoOf S) with
   | some (.li ds), some (.lst es, _) => if putK nm sc i && es.all D.atom && decide (ds.length ≤ listLine ∧ es.length ≤ listLine) then some (.next, S.put i (.li (ds ++ es))) else none
   | _, _ => none
  | .augI i _ k _ op e _ => match S i, ev nm fn FT n sc k tp (rhoOf S) with
   | some sl, some (kd, _) => match itemD sl.d kd, ev nm fn FT n sc e tp (rhoOf S) with
    | some a, some (b, _) => if sl.own && mutOp op && a.atom && kd.atom then match binD op a b with
     | some d => (setSlot sl kd d).map fun sl' => (.next, S.put i sl')
     | none => none else none
    | _, _ => none
   | _, _ => none
  | .setI i _ k _ e _ => match S i, ev nm fn FT n sc e tp (rhoOf S), ev nm fn FT n sc k tp (rhoOf S) with
   | some sl, some (d, _), some (kd, _) => if sl.own && d.atom && kd.atom then (setSlot sl kd d).map fun sl' => (.next, S.put i sl') else none
   | _, _, _ => none
  | .app i _ pa e pc _ => match S i, ev nm fn FT n sc e tp (rhoOf S) with
   | some (.li ds), some (d, _) => if d.atom && pa.endLine == pc.line && decide (ds.length ≤ listLine) then some (.next, S.put i (.li (ds ++ [d]))) else none
   | _, _ => none
  | .ite t a b _ => match evT nm fn FT n sc t tp (rhoOf S) with
   | some true => exB n a S
   | some false => exB n b S
   | none => none
  | .for tg src body _ => match evSrc nm fn FT n sc src tp (rhoOf S) with
   | some (ds, false, en) => if tg.two? == en && (tgVars tg).all (fun i => putK nm sc i) then loopF (exB n body) tg ds S else none
   | _ => none
  | .whl t body _ => exW n t body S
  | .ret e _ => match ev nm fn FT n sc e tp (rhoOf S) with
   | some (d, false) => some (.ret d, S)
   | _ => none
  | .tri body _ _ _ => exB n body S
  | .frz i => match S i with
   | some sl => some (.next, S.put i (.fr sl.d))
   | none => none
  | .repIf i y _ _ _ _ _ _ q6 _ _ z _ _ q9 _ _ => match S i with
   | some (.fr (.str x)) => if putK nm sc i && q6.endLine == q9.line && decide (x.length ≤ strLine ∧ z.length ≤ 14 ∧ (y == z) = false) then some (.next, S.put i (.fr (.str (if Txt.contains x y then Txt.replace x y z else x)))) else none
   | _ => none
  | .raw _ => none
noncomputable def exB : Nat → Bl → Sta → Option (Fl × Sta)
 | 0, _, _ => none
 | n + 1, b, S => match b with
  | .nil => some (.next, S)
  | .cons a r => match exS n a S with
   | some (.next, S') => exB n r S'
   | x => x
noncomputable def exW : Nat → X → Bl → Sta → Option (Fl × Sta)
 | 0, _, _, _ => none
 | n + 1, t, body, S => match evT nm fn FT n sc t tp (rhoOf S) with
  | some true => match exB n body S with
   | some (.next, S') => exW n t body S'
   | some (.ret d, S') => some (.ret d, S')
   | none => none
  | some false => some (.next, S)
  | none => none
end
end
end
section
namespace Q
section
variable {nm fn : Nat → Str} {FT : List FE} {n : Nat} {sc : Scope} {tp : Bool} {r : Rho} {S : Sta}
theorem asg (i : Nat) (pi : Pos) (e : X) (p : Pos) : exS nm fn FT sc tp (n + 1) (.asg i pi e p) S = (match ev nm fn FT n sc e tp (rhoOf S) with
   | some (d, false) => if putK nm sc i && swapOk nm i e then some (.next, S.put i (.fr d)) else none
   | _ => none) := rfl
theorem own (i : Nat) (pi : Pos) (e : X) (p : Pos) : exS nm fn FT sc tp (n + 1) (.own i pi e p) S = (match ev nm fn FT n sc e tp (rhoT S) with
   | some (d, false) => if putK nm sc i && swapOk nm i e then (slotOf d).map fun sl => (.next, S.put i sl) else none
   | _ => none) := rfl
theorem unp (ts : List (Nat × Pos)) (k : Nat) (pt : Pos) (e : X) (p : Pos) : exS nm fn FT sc tp (n + 1) (.unp ts k pt e p) S = (match ev nm fn FT n sc e tp (rhoOf S) with
   | some (.tup ds, false) => if notTup e && ts.all (fun t => putK nm sc t.1) && decide ((ts.map (·.1)).Nodup) then (putMany S ts ds).map fun S' => (.next, S') else none
   | _ => none) := rfl
theorem aug (i : Nat) (pi : Pos) (op : BOp) (e : X) (p : Pos) : exS nm fn FT sc tp (n + 1) (.aug i pi op e p) S = (match S i, ev nm fn FT n sc e tp (rhoOf S) with
   | some (.fr a), some (b, _) => if putK nm sc i && mutOp op && a.atom then match binD op a b with
    | some d => some (.next, S.put i (.fr d))
    | none => none else none
   | _, _ => none) := rfl
theorem ext (i : Nat) (pi : Pos) (e : X) (p : Pos) : exS nm fn FT sc tp (n + 1) (.ext i pi e p) S = (match S i, ev nm fn FT n sc e tp (rhoOf S) with
   | some (.li ds), some (.lst es, _) => if putK nm sc i && es.all D.atom && decide (ds.length ≤ listLine ∧ es.length ≤ listLine) then some (.next, S.put i (.li (ds ++ es))) else none
   | _, _ => none) := rfl
theorem augI (i : Nat) (pi : Pos) (k : X) (ps : Pos) (op : BOp) (e : X) (p : Pos) : exS nm fn FT sc tp (n + 1) (.augI i pi k ps op e p) S = (match S i, ev nm fn FT n sc k tp (rhoOf S) with
   | some sl, some (kd, _) => match itemD sl.d kd, ev nm fn FT n sc e tp (rhoOf S) with
    | some a, some (b, _) => if sl.own && mutOp op && a.atom && kd.atom then match binD op a b with
     | some d => (setSlot sl kd d).map fun sl' => (.next, S.put i sl')
     | none => none else none
    | _, _ => none
   | _, _ => none) := rfl
theorem setI (i : Nat) (pi : Pos) (k : X) (ps : Pos) (e : X) (p : Pos) : exS nm fn FT sc tp (n + 1) (.setI i pi k ps e p) S = (match S i, ev nm fn FT n sc e tp (rhoOf S), ev nm fn FT n sc k tp (rhoOf S) with
   | some sl, some (d, _), some (kd, _) => if sl.own && d.atom && kd.atom then (setSlot sl kd d).map fun sl' => (.next, S.put i sl') else none
   | _, _, _ => none) := rfl
theorem app (i : Nat) (pi pa : Pos) (e : X) (pc p : Pos) : exS nm fn FT sc tp (n + 1) (.app i pi pa e pc p) S = (match S i, ev nm fn FT n sc e tp (rhoOf S) with
   | some (.li ds), some (d, _) => if d.atom && pa.endLine == pc.line && decide (ds.length ≤ listLine) then some (.next, S.put i (.li (ds ++ [d]))) else none
   | _, _ => none) := rfl
theorem sif (t : X) (a b : Bl) (p : Pos) : exS nm fn FT sc tp (n + 1) (.ite t a b p) S = (match evT nm fn FT n sc t tp (rhoOf S) with
   | some true => exB nm fn FT sc tp n a S
   | some false => exB nm fn FT sc tp n b S
   | none => none) := rfl
theorem sfor (tg : Tg) (src : X) (body : Bl) (p : Pos) : exS nm fn FT sc tp (n + 1) (.for tg src body p) S = (match evSrc nm fn FT n sc src tp (rhoOf S) with
   | some (ds, false, en) => if tg.two? == en && (tgVars tg).all (fun i => putK nm sc i) then loopF (exB nm fn FT sc tp n body) tg ds S else none
   | _ => none) := rfl
theorem swhl (t : X) (body : Bl) (p : Pos) : exS nm fn FT sc tp (n + 1) (.whl t body p) S = exW nm fn FT sc tp n t body S := rfl
theorem sret (e : X) (p : Pos) : exS nm fn FT sc tp (n + 1) (.ret e p) S = (match ev nm fn FT n sc e tp (rhoOf S) with
   | some (d, false) => some (.ret d, S)
   | _ => none) := rfl
theorem stri (body : Bl) (h : ExceptHandler) (hs : List ExceptHandler) (p : Pos) : exS nm fn FT sc tp (n + 1) (.tri body h hs p) S = exB nm fn FT sc tp n body S := rfl
theorem sfrz (i : Nat) : exS nm fn FT sc tp (n + 1) (.frz i) S = (match S i with
   | some sl => some (.next, S.put i (.fr sl.d))
   | none => none) := rfl
theorem bnil : exB nm fn FT sc tp (n + 1) .nil S = some (.next, S) := rfl
theorem bcons (a : Sm) (b : Bl) : exB nm fn FT sc tp (n + 1) (.cons a b) S = (match exS nm fn FT sc tp n a S with
   | some (.next, S') => exB nm fn FT sc tp n b S'
   | x => x) := rfl
theorem wstep (t : X) (body : Bl) : exW nm fn FT sc tp (n + 1) t body S = (match evT nm fn FT n sc t tp (rhoOf S) with
  | some true => match exB nm fn FT sc tp n body S with
   | some (.next, S') => exW nm fn FT sc tp n t body S'
   | some (.ret d, S') => some (.ret d, S')
   | none => none
  | some false => some (.next, S)
  | none => none) := rfl
end
end Q
end
section
section
variable (prog : Program) (w : World)
inductive SlotOk (h : Heap) (Wf : Addr → Prop) : Slot → Value → List Addr → Prop
 | fr {d : D} {u : Value} : R prog w h Wf u d → SlotOk h Wf (.fr d) u []
 | li {a : Addr} {us : List Value} {m : Nat} {ds : List D} : h.get? a = some (sq "list" us m) → RL prog w h (fun _ => False) us ds → ds.all D.atom = true → SlotOk h Wf (.li ds) (.ref a) [a]
 | di {a : Addr} {kvs : List (Str × Value)} {ks : List Str} {ds : List D} : (a == sysModules) = false → h.DictOf (strKind prog w) a kvs → ks = kvs.map (·.1) → RL prog w h (fun _ => False) (kvs.map (·.2)) ds → ds.all D.atom = true → SlotOk h Wf (.di ks ds) (.ref a) [a]
end
noncomputable def Wf (B : Addr → Prop) (ad : Nat → List Addr) : Addr → Prop := fun a => B a ∨ ∃ i, a ∈ ad i
noncomputable def Wb (B : Addr → Prop) (ad : Nat → List Addr) : Bool → Addr → Prop
 | true => B
 | false => Wf B ad
section
variable (prog : Program) (w : World) (nm : Nat → Str)
structure SI (env : Env) (sc : Scope) (B : Addr → Prop) (h : Heap) (S : Sta) (σ : Str → Option Value) (ad : Nat → List Addr) : Prop where
 sc : env.scope = sc
 fm : Fm env h σ
 sl : ∀ i x, S i = some x → seenK (env.kindOf (nm i)) ∧ ∃ u, σ (nm i) = some u ∧ SlotOk prog w h (Wf B ad) x u (ad i)
 no : ∀ i, S i = none → ad i = []
 nb : ∀ i a, a ∈ ad i → ¬ B a
 dj : ∀ i j a, a ∈ ad i → a ∈ ad j → i = j
 nd : ∀ i, (ad i).Nodup
 al : ∀ a, B a → ∃ o, h.get? a = some o
structure Gn (A : Around) (fr : List Env) (base h₀ : Heap) (N : Nat) (env : Env) (B : Addr → Prop) : Prop where
 cx : Cx A fr base h₀ (N + 1)
 frame : env.frame = some env.locals
 g : EnvG env
 lnew : h₀.get? env.locals = none
 fmB : ∀ a, Fm.all env a → B a
 frB : ∀ a, frA fr a → B a
end
section
variable {prog : Program} {w : World} {nm fn : Nat → Str} {FT : List FE} {base : Heap} {N : Nat} {A : Around} {fr : List Env} {env : Env} {sc : Scope} {B : Addr → Prop} {h₀ : Heap} {S : Sta} {σ : Str → Option Value} {ad : Nat → List Addr} {s : Shared} {tp : Bool}
theorem RL.atoms {h h' : Heap} {W W' : Addr → Prop} {vs : List Value} {ds : List D} (r : RL prog w h W vs ds) (hd : ds.all D.atom = true) : RL prog w h' W' vs ds := r.of_atoms hd
theorem SlotOk.alive {h : Heap} {Wf : Addr → Prop} {x : Slot} {u : Value} {as : List Addr} (y : SlotOk prog w h Wf x u as) : ∀ a ∈ as, ∃ o, h.get? a = some o := by
 cases y with
 | fr _ => intro a ha; cases ha
 | li e _ _ => intro a ha; rw [List.mem_singleton] at ha; subst ha; exact ⟨_, e⟩
 | di _ e _ _ _ => intro a ha; rw [List.mem_singleton] at ha; subst ha; obtain ⟨o, _, _, ho, _⟩ := e; exact ⟨o, ho⟩
theorem SlotOk.keep {h h' : Heap} {W W' : Addr → Prop} {x : Slot} {u : Value} {as : List Addr} (y : SlotOk prog w h W x u as) (k : ∀ b ∈ as, ∀ o, h.get? b = some o → h'.get? b = some o)
  (kw : ∀ b o, ¬ W b → h.get? b = some o → h'.get? b = some o) (hW : ∀ a, W' a → W a ∨ h.get? a = none) : SlotOk prog w h' W' x u as := by
 cases y with
 | fr r => exact .fr (r.mono kw hW)
 | li e r hd => exact .li (k _ (List.mem_singleton.mpr rfl) _ e) (r.atoms hd) hd
 | di lo e e2 r hd =>
  obtain ⟨o, es, ep, ho, rest⟩ := e
  exact .di lo ⟨o, es, ep, k _ (List.mem_singleton.mpr rfl) _ ho, rest⟩ e2 (r.atoms hd) hd
theorem SlotOk.frE {h : Heap} {W : Addr → Prop} {x : Slot} {u : Value} {as : List Addr} (y : SlotOk prog w h W x u as) (ho : x.own = false) : as = [] := by
 cases y <;> first | rfl | cases ho
theorem SlotOk.value {h : Heap} {W W' : Addr → Prop} {x : Slot} {u : Value} {as : List Addr} (y : SlotOk prog w h W x u as) (hW : x.own = false → ∀ a, W' a → W a) (ha : ∀ a ∈ as, ¬ W' a) : R prog w h W' u x.d := by
 cases y with
 | fr r => exact r.mono (fun _ _ _ e => e) fun a q => .inl (hW rfl a q)
 | li e r hd => exact .lst (ha _ (List.mem_singleton.mpr rfl)) e (r.atoms hd)
 | di lo e e2 r hd => exact .dct (ha _ (List.mem_singleton.mpr rfl)) lo e e2 (r.atoms hd)
theorem SI.mean (x : SI prog w nm env sc B s.heap S σ ad) : Mean prog w nm env s.heap (Wb B ad) σ (rhoOf S) := by
 intro i d t hi
 unfold rhoOf at hi
 split at hi
 ·rename_i sl hs
  cases hi
  obtain ⟨a, u, b, c⟩ := x.sl i sl hs
  refine ⟨a, u, b, ?_⟩
  cases ho : sl.own with
  | true => exact c.value (fun q => by rw [ho] at q; cases q) fun a ha => x.nb i a ha
  | false =>
   have : ad i = [] := c.frE ho
   exact c.value (fun _ a q => q) (by rw [this]; intro a ha; cases ha)
 ·cases hi
theorem SI.st (gn : Gn A fr base h₀ N env B) (x : SI prog w nm env sc B s.heap S σ ad) (keep : Kp (SS fr tp) h₀ s.heap) (tk : 0 ≤ s.toks) :
  St (prog := prog) (w := w) (nm := nm) (A.deeper env) (env :: fr) base N env sc (Wb B ad) (rhoOf S) s := by
 have cx := gn.cx.step keep
 obtain ⟨m, hn, _⟩ := x.fm.ns
 have hbn : base.get? env.locals = none := by
  cases q : base.get? env.locals with
  | none => rfl
  | some o => have := gn.cx.stay _ _ q; rw [gn.lnew] at this; cases this
 refine ⟨⟨cx.hd, Around.frames_deeper cx.frs, cx.stay, Heap.FunFrames.cons (by rw [gn.g.kind]; simp) gn.frame hn hbn cx.ff, ?_, ?_, cx.low⟩, ⟨gn.g, x.sc, σ, x.fm, x.mean⟩, ⟨fun a q => ?_, fun a q => .inl q, fun a q => ?_⟩, tk⟩
 ·show A.depth + 1 + N ≤ 990; have := cx.dep; omega
 ·show A.units + 3 + 16 * N + 200 ≤ cLine; have := cx.un; omega
 ·unfold frA at q
  rw [List.filterMap_cons, gn.frame] at q
  rcases List.mem_cons.mp q with rfl | q
  ·exact gn.fmB _ (.inl rfl)
  ·exact gn.frB a q
 ·rcases q with q | ⟨i, q⟩
  ·exact x.al a q
  ·cases hs : S i with
   | none => rw [x.no i hs] at q; cases q
   | some sl => obtain ⟨_, u, _, c⟩ := x.sl i sl hs; exact c.alive a q
theorem SI.step {h : Heap} (gn : Gn A fr base h₀ N env B) (x : SI prog w nm env sc B h S σ ad) {h' : Heap} (k : Kp (SS (env :: fr) tp) h h') : SI prog w nm env sc B h' S σ ad := by
 have hS : ∀ a, SS (env :: fr) tp a → B a := fun a q => by
  have q := q.2
  unfold frA at q
  rw [List.filterMap_cons, gn.frame] at q
  rcases List.mem_cons.mp q with rfl | q
  ·exact gn.fmB _ (.inl rfl)
  ·exact gn.frB a q
 exact ⟨x.sc, x.fm.step k, fun i y hi => let ⟨a, u, b, c⟩ := x.sl i y hi; ⟨a, u, b, c.keep (fun b hb o e => k.out b o (fun q => x.nb i b hb (hS b q)) e) (fun b o hb e => k.out b o (fun q => hb (.inl (hS b q))) e) fun a q => .inl q⟩, x.no, x.nb, x.dj, x.nd, fun a q => let ⟨o, e⟩ := x.al a q; let ⟨_, e'⟩ := k.all a o e; ⟨_, e'⟩⟩
structure Mv (tp : Bool) (fr : List Env) (env : Env) (h : Heap) (ad : Nat → List Addr) (h' : Heap) (ad' : Nat → List Addr) : Prop where
 kept : ∀ b o, ¬ Fm.at env (fun _ => True) b → ¬ SS fr tp b → (∀ i, b ∉ ad i) → h.get? b = some o → h'.get? b = some o
 slot : ∀ b o, ¬ Fm.at env (fun _ => True) b → (∀ i, b ∉ ad i) → h.get? b = some o → ∃ sl, h'.get? b = some { o with slots := sl }
 live : ∀ b o, (∀ i, b ∉ ad i) → h.get? b = some o → ∃ o', h'.get? b = some o'
 new : ∀ i a, a ∈ ad' i → (∃ j, a ∈ ad j) ∨ h.get? a = none
theorem Mv.refl {h : Heap} : Mv tp fr env h ad h ad := ⟨fun _ _ _ _ _ e => e, fun b o _ _ e => ⟨o.slots, e⟩, fun b o _ e => ⟨o, e⟩, fun i a q => .inl ⟨i, q⟩⟩
theorem Mv.trans {h h₁ h₂ : Heap} {ad₁ ad₂ : Nat → List Addr} (x : Mv tp fr env h ad h₁ ad₁) (y : Mv tp fr env h₁ ad₁ h₂ ad₂) : Mv tp fr env h ad h₂ ad₂ := by
 have key : ∀ b o, (∀ i, b ∉ ad i) → h.get? b = some o → ∀ i, b ∉ ad₁ i := fun b o hb e i q => by
  rcases x.new i b q with ⟨j, z⟩ | z
  ·exact hb j z
  ·rw [e] at z; cases z
 refine ⟨fun b o h1 h2 h3 e => y.kept b o h1 h2 (key b o h3 e) (x.kept b o h1 h2 h3 e), fun b o h1 h3 e => ?_, fun b o h3 e => ?_, fun i a q => ?_⟩
 ·obtain ⟨sl, e'⟩ := x.slot b o h1 h3 e
  obtain ⟨sl', e''⟩ := y.slot b _ h1 (key b o h3 e) e'
  exact ⟨sl', e''⟩
 ·obtain ⟨o', e'⟩ := x.live b o h3 e
  exact y.live b _ (key b o h3 e) e'
 ·rcases y.new i a q with ⟨j, z⟩ | z
  ·exact x.new j a z
  ·cases hq : h.get? a with
   | none => exact .inr rfl
   | some o =>
    by_cases hj : ∃ j, a ∈ ad j
    ·exact .inl hj
    ·have hj' : ∀ j, a ∉ ad j := fun j q => hj ⟨j, q⟩
     exfalso
     obtain ⟨o', e⟩ := x.live a o hj' hq
     rw [e] at z; cases z
end
end
section
noncomputable def adPut (ad : Nat → List Addr) (i : Nat) (as : List Addr) : Nat → List Addr := fun k => if k = i then as else ad k
section
variable {prog : Program} {w : World} {nm fn : Nat → Str} {FT : List FE} {base : Heap} {N : Nat} {A : Around} {fr : List Env} {env : Env} {sc : Scope} {B : Addr → Prop} {h₀ : Heap} {S : Sta} {σ : Str → Option Value} {ad : Nat → List Addr} {s : Shared} {tp : Bool}
theorem SI.at {h : Heap} (x : SI prog w nm env sc B h S σ ad) {i : Nat} {sl : Slot} {u : Value} (hi : S i = some sl) (hu : σ (nm i) = some u) : SlotOk prog w h (Wf B ad) sl u (ad i) := by
 obtain ⟨_, v, hv, c⟩ := x.sl i sl hi
 rw [hu] at hv; cases hv; exact c
theorem SS_out (gn : Gn A fr base h₀ N env B) {b : Addr} (h1 : ¬ Fm.at env (fun _ => True) b) (h2 : ¬ SS fr tp b) : ¬ SS (env :: fr) tp b := fun q => by
 obtain ⟨q1, q⟩ := q
 unfold frA at q
 rw [List.filterMap_cons, gn.frame] at q
 rcases List.mem_cons.mp q with rfl | q
 ·exact h1 (.inl rfl)
 ·exact h2 ⟨q1, q⟩
theorem Mv.eval (gn : Gn A fr base h₀ N env B) {h h' : Heap} (k : Kp (SS (env :: fr) tp) h h') : Mv tp fr env h ad h' ad :=
 ⟨fun b o h1 h2 _ e => k.out b o (SS_out gn h1 h2) e, fun b o _ _ e => k.all b o e, fun b o _ e => let ⟨_, e'⟩ := k.all b o e; ⟨_, e'⟩, fun i a q => .inl ⟨i, q⟩⟩
theorem atB (gn : Gn A fr base h₀ N env B) {T : Str → Prop} {a : Addr} (q : Fm.at env T a) : B a := gn.fmB a (q.imp id fun ⟨x, _, h1, h2⟩ => ⟨x, .inl h1, h2⟩)
theorem store_slot {A' : Around} (gn : Gn A fr base h₀ N env B) (x : SI prog w nm env sc B s.heap S σ ad) (inj : ∀ i j, nm i = nm j → i = j) {i : Nat} (hp : putOk sc (nm i) = true) {sl : Slot} {u : Value} {as : List Addr}
  (hsl : SlotOk prog w s.heap (Wf B (adPut ad i as)) sl u as) (hB : ∀ a ∈ as, ¬ B a) (hd : ∀ k, k ≠ i → ∀ a ∈ as, a ∉ ad k) (hn : as.Nodup)
  (hlift : ∀ k y v, k ≠ i → S k = some y → σ (nm k) = some v → SlotOk prog w s.heap (Wf B ad) y v (ad k) → SlotOk prog w s.heap (Wf B (adPut ad i as)) y v (ad k)) :
  Ok (model prog w) A' (storeName env (nm i) u) s (fun _ h' => SI prog w nm env sc B h' (S.put i sl) (fun y => if y = nm i then some u else σ y) (adPut ad i as) ∧
   (∀ b o, ¬ Fm.at env (fun _ => True) b → s.heap.get? b = some o → h'.get? b = some o) ∧ (∀ b o, s.heap.get? b = some o → ∃ o', h'.get? b = some o')) := by
 refine (store_ok (T := fun _ => True) trivial gn.g x.fm (putOk_kind x.sc hp)).mono fun _ h' q => ?_
 obtain ⟨f, k⟩ := q
 have live : ∀ b o, s.heap.get? b = some o → ∃ o', h'.get? b = some o' := fun b o e => by
  by_cases hb : Fm.at env (fun _ => True) b
  ·exact f.alive hb
  ·exact ⟨o, k b o hb e⟩
 have kWf : ∀ {ad' : Nat → List Addr} b o, ¬ Wf B ad' b → s.heap.get? b = some o → h'.get? b = some o := fun {ad'} b o hb e => k b o (fun q => hb (.inl (atB gn q))) e
 refine ⟨⟨x.sc, f, fun j y hj => ?_, fun j hj => ?_, fun j a ha => ?_, fun j l a h1 h2 => ?_, fun j => ?_, fun a q => let ⟨o, e⟩ := x.al a q; live a o e⟩, k, live⟩
 ·unfold Sta.put at hj
  by_cases hji : j = i
  ·subst hji
   rw [if_pos rfl] at hj; cases hj
   refine ⟨putOk_seen x.sc hp, u, if_pos rfl, ?_⟩
   have : adPut ad j as j = as := if_pos rfl
   rw [this]
   exact hsl.keep (fun b hb o e => k b o (fun q => hB b hb (atB gn q)) e) kWf fun a q => .inl q
  ·rw [if_neg hji] at hj
   obtain ⟨a, v, b, c⟩ := x.sl j y hj
   refine ⟨a, v, (if_neg fun e => hji (inj _ _ e)).trans b, ?_⟩
   have : adPut ad i as j = ad j := if_neg hji
   rw [this]
   exact (hlift j y v hji hj b c).keep (fun b hb o e => k b o (fun q => x.nb j b hb (atB gn q)) e) kWf fun a q => .inl q
 ·unfold Sta.put at hj
  by_cases hji : j = i
  ·rw [if_pos hji] at hj; cases hj
  ·rw [if_neg hji] at hj
   exact (if_neg hji).trans (x.no j hj)
 ·unfold adPut at ha
  split at ha
  ·exact hB a ha
  ·exact x.nb j a ha
 ·unfold adPut at h1 h2
  split at h1 <;> split at h2
  ·rename_i e1 e2; rw [e1, e2]
  ·rename_i e1 e2; exact absurd h2 (hd l e2 a h1)
  ·rename_i e1 e2; exact absurd h1 (hd j e1 a h2)
  ·exact x.dj j l a h1 h2
 ·unfold adPut; split
  ·exact hn
  ·exact x.nd j
theorem Mv.store {hs h h' : Heap} {i : Nat} {as : List Addr} (x : Mv tp fr env hs ad h ad) (k : ∀ b o, ¬ Fm.at env (fun _ => True) b → h.get? b = some o → h'.get? b = some o) (live : ∀ b o, h.get? b = some o → ∃ o', h'.get? b = some o')
  (hnew : ∀ a ∈ as, (∃ j, a ∈ ad j) ∨ hs.get? a = none) : Mv tp fr env hs ad h' (adPut ad i as) :=
 ⟨fun b o h1 h2 h3 e => k b o h1 (x.kept b o h1 h2 h3 e), fun b o h1 h3 e => let ⟨sl, e'⟩ := x.slot b o h1 h3 e; ⟨sl, k b _ h1 e'⟩, fun b o h3 e => let ⟨o', e'⟩ := x.live b o h3 e; live b o' e', fun j a q => by
  unfold adPut at q
  split at q
  ·exact hnew a q
  ·exact .inl ⟨j, q⟩⟩
theorem Wf.put0 {i : Nat} {a : Addr} (q : Wf B (adPut ad i []) a) : Wf B ad a := q.imp id fun ⟨j, z⟩ => by
 unfold adPut at z
 by_cases c : j = i
 ·rw [if_pos c] at z; cases z
 ·rw [if_neg c] at z; exact ⟨j, z⟩
theorem store_fr {A' : Around} (gn : Gn A fr base h₀ N env B) (x : SI prog w nm env sc B s.heap S σ ad) (inj : ∀ i j, nm i = nm j → i = j) {i : Nat} (hp : putOk sc (nm i) = true) {d : D} {u : Value} (r : R prog w s.heap (Wf B ad) u d) {Q : Unit → Shared → Prop} {E : Value → Shared → Prop}
  (c : ∀ σ' h' tk, s.toks ≤ tk → SI prog w nm env sc B h' (S.put i (.fr d)) σ' (adPut ad i []) → Mv tp fr env s.heap ad h' (adPut ad i []) → (∀ b o, ¬ Fm.at env (fun _ => True) b → s.heap.get? b = some o → h'.get? b = some o) → Q () (up s h' tk)) :
  wpAny (model prog w) A' (storeName env (nm i) u) Q E s :=
 (store_slot (sl := .fr d) (as := []) gn x inj hp (.fr (r.mono (fun _ _ _ e => e) fun a q => .inl q.put0)) (fun a ha => nomatch ha) (fun k _ a ha => nomatch ha) .nil fun k y v _ _ _ c => c.keep (fun _ _ _ e => e) (fun _ _ _ e => e) fun a q => .inl q.put0).wp2 fun _ h' tk hn y k =>
  c _ h' tk hn y (Mv.refl.store k.1 k.2 fun a ha => nomatch ha) k.1
theorem SI.slE {h : Heap} (x : SI prog w nm env sc B h S σ ad) {i : Nat} {sl : Slot} (hi : S i = some sl) {G : Prop} (k : ∀ u, σ (nm i) = some u → SlotOk prog w h (Wf B ad) sl u (ad i) → G) : G :=
 let ⟨_, u, a, b⟩ := x.sl i sl hi; k u a b
theorem SI.liE {h : Heap} (x : SI prog w nm env sc B h S σ ad) {i : Nat} {ds : List D} (hi : S i = some (.li ds)) {G : Prop} (k : ∀ a us m, σ (nm i) = some (.ref a) → ad i = [a] → h.get? a = some (sq "list" us m) → RL prog w h (fun _ => False) us ds → ds.all D.atom = true → G) : G :=
 x.slE hi fun u hu c => by
  generalize ad i = as at c k
  cases c with | li a b c => exact k _ _ _ hu rfl a b c
theorem SI.frE {h : Heap} (x : SI prog w nm env sc B h S σ ad) {i : Nat} {d : D} (hi : S i = some (.fr d)) {G : Prop} (k : ∀ u, σ (nm i) = some u → R prog w h (Wf B ad) u d → G) : G :=
 x.slE hi fun u hu c => by
  generalize ad i = as at c
  cases c with | fr a => exact k _ hu a
theorem own_change (x : SI prog w nm env sc B s.heap S σ ad) {i : Nat} {sl sl' : Slot} {u : Value} {h' : Heap} (hi : S i = some sl) (hu : σ (nm i) = some u) (gn : Gn A fr base h₀ N env B)
  (k : ∀ b o, b ∉ ad i → s.heap.get? b = some o → h'.get? b = some o) (hsl : SlotOk prog w h' (Wf B ad) sl' u (ad i)) : SI prog w nm env sc B h' (S.put i sl') σ ad ∧ Mv tp fr env s.heap ad h' ad := by
 have hB : ∀ b, B b → b ∉ ad i := fun b q z => x.nb i b z q
 refine ⟨⟨x.sc, x.fm.keep fun a o q e => k a o (hB a (gn.fmB a q)) e, fun j y hj => ?_, fun j hj => ?_, x.nb, x.dj, x.nd, fun a q => let ⟨o, e⟩ := x.al a q; ⟨o, k a o (hB a q) e⟩⟩,
  ⟨fun b o _ _ h3 e => k b o (h3 i) e, fun b o _ h3 e => ⟨o.slots, k b o (h3 i) e⟩, fun b o h3 e => ⟨o, k b o (h3 i) e⟩, fun j a q => .inl ⟨j, q⟩⟩⟩
 ·unfold Sta.put at hj
  by_cases hji : j = i
  ·subst hji
   rw [if_pos rfl] at hj; cases hj
   exact ⟨(x.sl j sl hi).1, u, hu, hsl⟩
  ·rw [if_neg hji] at hj
   obtain ⟨a, v, b, c⟩ := x.sl j y hj
   exact ⟨a, v, b, c.keep (fun b hb o e => k b o (fun z => hji (x.dj j i b hb z)) e) (fun b o hb e => k b o (fun z => hb (.inr ⟨i, z⟩)) e) fun a q => .inl q⟩
 ·unfold Sta.put at hj
  by_cases hji : j = i
  ·rw [if_pos hji] at hj; cases hj
  ·rw [if_neg hji] at hj; exact x.no j hj
theorem freeze (x : SI prog w nm env sc B s.heap S σ ad) {i : Nat} {sl : Slot} (hi : S i = some sl) : SI prog w nm env sc B s.heap (S.put i (.fr sl.d)) σ (adPut ad i []) ∧ Mv tp fr env s.heap ad s.heap (adPut ad i []) := by
 have hW : ∀ a, Wf B (adPut ad i []) a → Wf B ad a := fun a q => q.imp id fun ⟨j, z⟩ => by
  unfold adPut at z
  split at z
  ·cases z
  ·exact ⟨j, z⟩
 refine ⟨⟨x.sc, x.fm, fun j y hj => ?_, fun j hj => ?_, fun j a ha => ?_, fun j l a h1 h2 => ?_, fun j => ?_, x.al⟩, ⟨fun _ _ _ _ _ e => e, fun b o _ _ e => ⟨o.slots, e⟩, fun b o _ e => ⟨o, e⟩, fun j a q => ?_⟩⟩
 ·unfold Sta.put at hj
  by_cases hji : j = i
  ·subst hji
   rw [if_pos rfl] at hj; cases hj
   obtain ⟨a, u, b, c⟩ := x.sl j sl hi
   refine ⟨a, u, b, ?_⟩
   have : adPut ad j [] j = [] := if_pos rfl
   rw [this]
   refine .fr (c.value (fun _ a q => hW a q) fun a ha q => ?_)
   rcases q with q | ⟨l, q⟩
   ·exact x.nb j a ha q
   ·unfold adPut at q
    split at q
    ·cases q
    ·rename_i hl; exact hl (x.dj l j a q ha)
  ·rw [if_neg hji] at hj
   obtain ⟨a, v, b, c⟩ := x.sl j y hj
   refine ⟨a, v, b, ?_⟩
   have : adPut ad i [] j = ad j := if_neg hji
   rw [this]
   exact c.keep (fun _ _ _ e => e) (fun _ _ _ e => e) fun a q => .inl (hW a q)
 ·unfold Sta.put at hj
  by_cases hji : j = i
  ·rw [if_pos hji] at hj; cases hj
  ·rw [if_neg hji] at hj
   exact (if_neg hji).trans (x.no j hj)
 ·unfold adPut at ha
  split at ha
  ·cases ha
  ·exact x.nb j a ha
 ·unfold adPut at h1 h2
  split at h1 <;> split at h2
  ·cases h1
  ·cases h1
  ·cases h2
  ·exact x.dj j l a h1 h2
 ·unfold adPut; split
  ·exact .nil
  ·exact x.nd j
 ·unfold adPut at q
  split at q
  ·cases q
  ·exact .inl ⟨j, q⟩
structure Go (A : Around) (fr : List Env) (base h₀ : Heap) (N : Nat) (env : Env) (B : Addr → Prop) (tp : Bool) (h : Heap) (ad : Nat → List Addr) : Prop where
 gn : Gn A fr base h₀ N env B
 keep : Kp (SS fr tp) h₀ h
 nw : ∀ i a, a ∈ ad i → h₀.get? a = none
 fmN : ∀ a, Fm.at env (fun _ => True) a → h₀.get? a = none
theorem Go.move {h h' : Heap} {ad' : Nat → List Addr} (g : Go A fr base h₀ N env B tp h ad) (m : Mv tp fr env h ad h' ad') : Go A fr base h₀ N env B tp h' ad' := by
 have h1 : ∀ b o, h₀.get? b = some o → ¬ Fm.at env (fun _ => True) b := fun b o e q => by rw [g.fmN b q] at e; cases e
 have h2 : ∀ b o, h₀.get? b = some o → ∀ i, b ∉ ad i := fun b o e i q => by rw [g.nw i b q] at e; cases e
 refine ⟨g.gn, ⟨fun b o hS e => m.kept b o (h1 b o e) hS (h2 b o e) (g.keep.out b o hS e), fun b o e => ?_⟩, fun i a q => ?_, g.fmN⟩
 ·obtain ⟨sl, e'⟩ := g.keep.all b o e
  obtain ⟨sl', e''⟩ := m.slot b _ (h1 b o e) (h2 b o e) e'
  exact ⟨sl', e''⟩
 ·rcases m.new i a q with ⟨j, z⟩ | z
  ·exact g.nw j a z
  ·exact g.keep.alive z
end
end
section
section
variable {prog : Program} {w : World} {nm fn : Nat → Str} {FT : List FE} {base : Heap} {N : Nat} {A : Around} {fr : List Env} {env : Env} {sc : Scope} {B : Addr → Prop} {h₀ : Heap} {S : Sta} {σ : Str → Option Value} {ad : Nat → List Addr} {s : Shared} {tp : Bool}
theorem Gn.more {M : Addr → Prop} (g : Gn A fr base h₀ N env B) : Gn A fr base h₀ N env (fun a => B a ∨ M a) := ⟨g.cx, g.frame, g.g, g.lnew, fun a q => .inl (g.fmB a q), fun a q => .inl (g.frB a q)⟩
theorem SI.lift {M : Addr → Prop} {h h' : Heap} (gn : Gn A fr base h₀ N env B) (x : SI prog w nm env sc B h S σ ad) (k : Kp (SS (env :: fr) tp) h h') (hM : ∀ a, M a → h.get? a = none ∧ ∃ o, h'.get? a = some o) :
  SI prog w nm env sc (fun a => B a ∨ M a) h' S σ ad := by
 have y := SI.step gn x k
 have hW : ∀ a, Wf (fun a => B a ∨ M a) ad a → Wf B ad a ∨ h.get? a = none := fun a q => by
  rcases q with (q | q) | q
  ·exact .inl (.inl q)
  ·exact .inr (hM a q).1
  ·exact .inl (.inr q)
 have hS : ∀ a, SS (env :: fr) tp a → B a := fun a q => by
  have q := q.2
  unfold frA at q
  rw [List.filterMap_cons, gn.frame] at q
  rcases List.mem_cons.mp q with rfl | q
  ·exact gn.fmB _ (.inl rfl)
  ·exact gn.frB a q
 refine ⟨x.sc, y.fm, fun i z hi => ?_, x.no, fun i a ha q => ?_, x.dj, x.nd, fun a q => ?_⟩
 ·obtain ⟨a, u, b, c⟩ := x.sl i z hi
  exact ⟨a, u, b, c.keep (fun b hb o e => k.out b o (fun q => x.nb i b hb (hS b q)) e) (fun b o hb e => k.out b o (fun q => hb (.inl (hS b q))) e) hW⟩
 ·rcases q with q | q
  ·exact x.nb i a ha q
  ·cases hs : S i with
   | none => rw [x.no i hs] at ha; cases ha
   | some sl =>
    obtain ⟨_, u, _, c⟩ := x.sl i sl hs
    obtain ⟨o, ho⟩ := c.alive a ha
    rw [(hM a q).1] at ho; cases ho
 ·rcases q with q | q
  ·exact y.al a q
  ·exact (hM a q).2
theorem SI.weak {M : Addr → Prop} {h h' : Heap} (x : SI prog w nm env sc (fun a => B a ∨ M a) h S σ ad) (gn : Gn A fr base h₀ N env B) (k : ∀ b o, ¬ M b → h.get? b = some o → h'.get? b = some o) (hMB : ∀ a, M a → ¬ B a) :
  SI prog w nm env sc B h' S σ ad := by
 refine ⟨x.sc, x.fm.keep fun a o q e => k a o (fun z => hMB a z (gn.fmB a q)) e, fun i z hi => ?_, x.no, fun i a ha q => x.nb i a ha (.inl q), x.dj, x.nd, fun a q => ?_⟩
 ·obtain ⟨a, u, b, c⟩ := x.sl i z hi
  exact ⟨a, u, b, c.keep (fun b hb o e => k b o (fun q => x.nb i b hb (.inr q)) e) (fun b o hb e => k b o (fun q => hb (.inl (.inr q))) e) fun a q => .inl (q.imp .inl id)⟩
 ·obtain ⟨o, e⟩ := x.al a (.inl q)
  exact ⟨o, k a o (fun z => hMB a z q) e⟩
variable (am : Am prog w nm fn FT base N)
include am
theorem assign_plain {n : Nat} {e : X} {i : Nat} {pi p : Pos} {W : Bool → Addr → Prop} {ρ : Rho} {d : D} {P : Flow → Heap → Prop} {PP : (Addr → Prop) → Heap → Prop}
  (st : St (prog := prog) (w := w) (nm := nm) (A.deeper env) (env :: fr) base N env sc W ρ s) (he : ev nm fn FT n sc e tp ρ = some (d, false)) (hfm : ∃ σ, Fm env s.heap σ)
  (hfin : ∀ (M : Addr → Prop) u h' tk, s.toks ≤ tk → (∀ a, M a → s.heap.get? a = none ∧ ∃ o, h'.get? a = some o) → Kp (SS (env :: fr) tp) s.heap h' → R prog w h' (fun a => W false a ∨ M a) u d →
   Ok (model prog w) (A.deeper env) (storeName env (nm i) u) (up s h' tk) (fun _ h'' => (∀ b o, ¬ Fm.at env (fun _ => True) b → h'.get? b = some o → h''.get? b = some o) ∧ PP M h''))
  (hpost : ∀ M h'' h''', (∀ a, M a → s.heap.get? a = none) → PP M h'' → (∀ b o, ¬ M b → h''.get? b = some o → h'''.get? b = some o) → P .next h''')
  (hs : swapsWith (e.py nm fn) (some (.Name (nm i) pi)) p.line env = pure false) :
  Ok (model prog w) (A.deeper env) (exec (.Assign [.Name (nm i) pi] (e.py nm fn) p) env) s P := by
 refine wpAny_Assign_Name (((sound am n n (Nat.le_refl _)).ev _ _ _ _ _ he _ _ _ _ _ st).wp fun u h' tk hn q => ?_) hs
 exact (hfin (fun _ => False) u h' tk hn (fun a q => q.elim) q.1 (q.2.mono (fun _ _ _ e => e) fun a q => .inl (q.elim id False.elim))).wp fun _ h'' tk' _ q => ⟨_, _, rfl, hpost (fun _ => False) h'' h'' (fun a q => q.elim) q.2 fun _ _ _ e => e⟩
theorem assign_used {n : Nat} {cx : Expr} {scope : Scope} {g : Comprehension} {gs : List Comprehension} {newAcc : Sem Value} {e : X} {i : Nat} {pi p : Pos} {W : Bool → Addr → Prop} {ρ : Rho} {d : D} {P : Flow → Heap → Prop} {PP : (Addr → Prop) → Heap → Prop}
  (st : St (prog := prog) (w := w) (nm := nm) (A.deeper env) (env :: fr) base N env sc W ρ s) (he : ev nm fn FT n sc e tp ρ = some (d, false)) (hfm : ∃ σ, Fm env s.heap σ)
  (hfin : ∀ (M : Addr → Prop) u h' tk, s.toks ≤ tk → (∀ a, M a → s.heap.get? a = none ∧ ∃ o, h'.get? a = some o) → Kp (SS (env :: fr) tp) s.heap h' → R prog w h' (fun a => W false a ∨ M a) u d →
   Ok (model prog w) (A.deeper env) (storeName env (nm i) u) (up s h' tk) (fun _ h'' => (∀ b o, ¬ Fm.at env (fun _ => True) b → h'.get? b = some o → h''.get? b = some o) ∧ PP M h''))
  (hpost : ∀ M h'' h''', (∀ a, M a → s.heap.get? a = none) → PP M h'' → (∀ b o, ¬ M b → h''.get? b = some o → h'''.get? b = some o) → P .next h''')
  (hcx : e.py nm fn = cx) (hc : compOk sc scope = true) (hcl : clausesOf cx = g :: gs) (hfo : ∀ x, foldedSetIterable g.iter env x = pure x)
  (hev : ∀ use, evalThenUse cx env use = (do let _ ← comprehension cx scope env (firstIterPos (g :: gs) cx.pos) newAcc false (eval g.iter env) (some use)))
  (core : ∀ (RR : Value → Addr → Result → Shared → Prop) (E : Value → Shared → Prop),
    (∀ Z C h' tk, s.toks ≤ tk → s.heap.get? Z = none → s.heap.get? C = none → Z ≠ C → (∃ m, h'.Ns C m) → Kp (SS (env :: fr) tp) s.heap h' → R prog w h' (fun a => W false a ∨ a = C) (.ref Z) d → RR (.ref Z) C (.ok .next) (up s h' tk)) →
    wpAny (model prog w) (A.deeper env) (eval g.iter env) (fun x s₁ => wpAny (model prog w) (A.deeper env) (pyIter x) (fun it s₂ => wpAny (model prog w) (A.deeper env) newAcc (fun acc s₃ => wpAny (model prog w) (A.deeper env) (newFunctionEnv scope env.globals (clos env scope.names []) [] env.qual none .none (some env)) (fun cenv s₄ =>
     codeAny (model prog w) (A.deeper env) (.compStart cx 0 it acc { cenv with scope := relabel scope env }) (RR acc cenv.locals) s₄) E s₃) E s₂) E s₁) E s)
  (hs : swapsWith (e.py nm fn) (some (.Name (nm i) pi)) p.line env = pure true) :
  Ok (model prog w) (A.deeper env) (exec (.Assign [.Name (nm i) pi] (e.py nm fn) p) env) s P := by
 obtain ⟨σ, f⟩ := hfm
 show wpAny _ _ _ _ _ _
 rw [exec_Assign_Name_used _ _ _ _ hs, hcx, hev]
 refine wpAny_bind (wpAny_standAt (wpAny_bind ?_))
 obtain ⟨hk, hd, hf⟩ := compOk_of hc
 refine wpAny_bind (wpAny_mono (wpAny_comprehension_free (use := some (assign (.Name (nm i) pi) env)) (Q := fun _ s' => ∃ h' tk, s' = (up s h' tk) ∧ P .next h') hcl hfo (closureFor_eq (compFree f (by rw [st.e.sc]; exact hc))) hk (fun x hx hl => mem_lookup hd (by rw [← hl]; exact hx)) ?_) (fun _ s' q => wpAny_pure (wpAny_pure q)) fun _ _ q => q)
 refine core _ _ fun Z C h' tk hn hZ hC hne hns k r => ?_
 obtain ⟨m, hm⟩ := hns
 have hCat : ¬ Fm.at env (fun _ => True) C := fun q => by obtain ⟨o, ho⟩ := f.alive q; rw [hC] at ho; cases ho
 show wpAny _ _ (assign (.Name (nm i) pi) env (.ref Z)) _ _ _
 refine wpAny_assign_Name ((hfin (fun a => a = C) (.ref Z) h' tk hn (fun a q => by subst q; exact ⟨hC, by obtain ⟨o, _, _, ho, _⟩ := hm; exact ⟨o, ho⟩⟩) k r).wp2 fun _ h'' tk' _ q1 q2 => ?_)
 refine ⟨m, hm.at' fun o e => q1 C o hCat e, fun h''' hs' => ⟨h''', tk', rfl, hpost (fun a => a = C) h'' h''' (fun a q => q ▸ hC) q2 fun b o hb e => (hs'.2 b hb).trans e⟩⟩
omit am in
@[elab_as_elim] theorem asgCases (nm fn : Nat → Str) {m : X → Prop} (h1 : ∀ el gs sc' p, m (.lcomp el gs sc' p)) (h2 : ∀ kx vx gs sc' p, m (.dcomp kx vx gs sc' p)) (h3 : ∀ e, (∀ (i : Nat) (pi : Pos) (l : Nat) (env : Env), swapsWith (X.py nm fn e) (some (.Name (nm i) pi)) l env = pure false) → m e) (e : X) : m e := by
 cases e with
 | lcomp => exact h1 _ _ _ _
 | dcomp => exact h2 _ _ _ _ _
 | _ => exact h3 _ fun _ _ _ _ => rfl
theorem assign_any {n : Nat} {e : X} {i : Nat} {pi p : Pos} {W : Bool → Addr → Prop} {ρ : Rho} {d : D} {P : Flow → Heap → Prop} {PP : (Addr → Prop) → Heap → Prop}
  (st : St (prog := prog) (w := w) (nm := nm) (A.deeper env) (env :: fr) base N env sc W ρ s) (he : ev nm fn FT n sc e tp ρ = some (d, false)) (hfm : ∃ σ, Fm env s.heap σ)
  (hfin : ∀ (M : Addr → Prop) u h' tk, s.toks ≤ tk → (∀ a, M a → s.heap.get? a = none ∧ ∃ o, h'.get? a = some o) → Kp (SS (env :: fr) tp) s.heap h' → R prog w h' (fun a => W false a ∨ M a) u d →
   Ok (model prog w) (A.deeper env) (storeName env (nm i) u) (up s h' tk) (fun _ h'' => (∀ b o, ¬ Fm.at env (fun _ => True) b → h'.get? b = some o → h''.get? b = some o) ∧ PP M h''))
  (hpost : ∀ M h'' h''', (∀ a, M a → s.heap.get? a = none) → PP M h'' → (∀ b o, ¬ M b → h''.get? b = some o → h'''.get? b = some o) → P .next h''') :
  Ok (model prog w) (A.deeper env) (exec (.Assign [.Name (nm i) pi] (e.py nm fn) p) env) s P := by
 have hsf : env.scope = sc := st.e.sc
 revert he
 refine asgCases nm fn (fun el gs sc' pe he => ?_) (fun kx vx gs sc' pe he => ?_) (fun e h he => assign_plain am st he hfm hfin hpost (h i pi _ env)) e
 ·cases n with
  | zero => exact optE he
  | succ n =>
  have hc : compOk sc sc' = true := I.lcomp (m := fun _ => compOk sc sc' = true) he fun hc _ _ _ _ _ _ _ _ _ => hc
  cases gs with
  | nil => exact (I.lcomp (m := fun _ => False) he fun _ _ _ _ _ _ h => by cases n <;> exact optE h).elim
  | cons t src ifs rest =>
  cases hb : (env.blockKind == .function && env.kindOf (nm i) == some .local && pi.line == pe.line && !(sc'.names.any fun (n, k) => n == nm i && (k == .local || k == .cell))) with
  | false => exact assign_plain am st he hfm hfin hpost (by show pure _ = _; exact congrArg pure hb)
  | true =>
   refine assign_used am st he hfm hfin hpost (cx := (X.lcomp el (.cons t src ifs rest) sc' pe).py nm fn) (scope := sc') (g := ⟨t.py nm, src.py nm fn, ifs.py nm fn, 0⟩) (gs := rest.py nm fn) (newAcc := newList []) rfl hc rfl (fun x => folded_py src x) (fun u => rfl) (fun RR E hRR => ?_) (by show pure _ = _; exact congrArg pure hb)
   exact lcomp_core am (sound am n) he st fun Z C h' tk hn hZ hC hne hns k r _ => hRR Z C h' tk hn hZ hC hne hns k r
 ·cases n with
  | zero => exact optE he
  | succ n =>
  have hg : compOk sc sc' = true ∧ gs.single = true := I.dcomp (m := fun _ => compOk sc sc' = true ∧ gs.single = true) he fun hc _ hs _ _ _ _ _ _ _ _ _ => ⟨hc, hs⟩
  rcases gs with _ | ⟨t, src, ifs, _ | _⟩
  ·cases hg.2
  rotate_left
  ·cases hg.2
  cases hb : (env.blockKind == .function && env.kindOf (nm i) == some .local && pi.line == pe.line && !(sc'.names.any fun (n, k) => n == nm i && (k == .local || k == .cell))) with
  | false => exact assign_plain am st he hfm hfin hpost (by show pure _ = _; exact congrArg pure hb)
  | true =>
   refine assign_used am st he hfm hfin hpost (cx := (X.dcomp kx vx (.cons t src ifs .nil) sc' pe).py nm fn) (scope := sc') (g := ⟨t.py nm, src.py nm fn, ifs.py nm fn, 0⟩) (gs := []) (newAcc := newDict) rfl hg.1 rfl (fun x => folded_py src x) (fun u => rfl) (fun RR E hRR => ?_) (by show pure _ = _; exact congrArg pure hb)
   exact dcomp_core am (sound am n) he st fun Z C h' tk hn hZ hC hne hns k r _ => hRR Z C h' tk hn hZ hC hne hns k r
end
end
section
namespace J
section
variable {δ : Type} {d : δ} {G : Prop} {A B C : Option V} {L : Option Slot}
theorem mF {f : D → Option δ} (h : (match A with | some (d, false) => f d | _ => none) = some d) (k : ∀ x, A = some (x, false) → f x = some d → G) : G := by
 rcases A with _ | ⟨x, _ | _⟩
 ·exact optE h
 ·exact k x rfl h
 ·exact optE h
theorem mTF {f : List D → Option δ} (h : (match A with | some (.tup ds, false) => f ds | _ => none) = some d) (k : ∀ ds, A = some (.tup ds, false) → f ds = some d → G) : G := by
 rcases A with _ | ⟨x, t⟩
 ·exact optE h
 have e : (match some (x, t) with | some (.tup ds, false) => f ds | _ => none) = (I.tupD x).bind (fun ds => if t then none else f ds) := by
  clear h k; cases x <;> cases t <;> rfl
 refine bindE (e.symm.trans h) fun ds h1 h => ?_
 cases t with
 | true => exact optE h
 | false => exact k ds (by rw [I.tupD_eq h1]) h
noncomputable def frS : Slot → Option D
 | .fr d => some d
 | _ => none
noncomputable def liS : Slot → Option (List D)
 | .li ds => some ds
 | _ => none
theorem frS_eq {x : Slot} {y : D} (h : frS x = some y) : x = .fr y := by cases x <;> first | exact someE h rfl | exact optE h
theorem liS_eq {x : Slot} {y : List D} (h : liS x = some y) : x = .li y := by cases x <;> first | exact someE h rfl | exact optE h
theorem sFr {f : D → D → Option δ} (h : (match L, A with | some (.fr a), some (b, _) => f a b | _, _ => none) = some d) (k : ∀ a b t, L = some (.fr a) → A = some (b, t) → f a b = some d → G) : G := by
 rcases L with _ | x
 ·exact optE h
 have e : (match (generalizing := false) some x, A with | some (.fr a), some (b, _) => f a b | _, _ => none) = (frS x).bind fun a => A.bind fun y => f a y.1 := by
  clear h k; cases x <;> first | rfl | (rcases A with _ | ⟨_, _⟩ <;> rfl)
 exact bindE (e.symm.trans h) fun a h1 h => bindE h fun y h2 h => k a y.1 y.2 (by rw [frS_eq h1]) h2 h
theorem sLi {f : List D → D → Option δ} (h : (match L, A with | some (.li a), some (b, _) => f a b | _, _ => none) = some d) (k : ∀ a b t, L = some (.li a) → A = some (b, t) → f a b = some d → G) : G := by
 rcases L with _ | x
 ·exact optE h
 have e : (match (generalizing := false) some x, A with | some (.li a), some (b, _) => f a b | _, _ => none) = (liS x).bind fun a => A.bind fun y => f a y.1 := by
  clear h k; cases x <;> first | rfl | (rcases A with _ | ⟨_, _⟩ <;> rfl)
 exact bindE (e.symm.trans h) fun a h1 h => bindE h fun y h2 h => k a y.1 y.2 (by rw [liS_eq h1]) h2 h
theorem sLL {f : List D → List D → Option δ} (h : (match L, A with | some (.li a), some (.lst b, _) => f a b | _, _ => none) = some d) (k : ∀ a b t, L = some (.li a) → A = some (.lst b, t) → f a b = some d → G) : G := by
 rcases L with _ | x
 ·exact optE h
 rcases A with _ | ⟨y, t⟩
 ·exact optE (show none = some d by rw [← h]; cases x <;> rfl)
 have e : (match (generalizing := false) some x, some (y, t) with | some (.li a), some (.lst b, _) => f a b | _, _ => none) = (liS x).bind fun a => (I.lstD y).bind fun b => f a b := by
  clear h k; cases x <;> first | rfl | (cases y <;> rfl)
 exact bindE (e.symm.trans h) fun a h1 h => bindE h fun b h2 h => k a b t (by rw [liS_eq h1]) (by rw [I.lstD_eq h2]) h
theorem s1 {f : Slot → D → Option δ} (h : (match L, A with | some a, some (b, _) => f a b | _, _ => none) = some d) (k : ∀ a b t, L = some a → A = some (b, t) → f a b = some d → G) : G := by
 rcases L with _ | x
 ·exact optE h
 rcases A with _ | ⟨y, t⟩
 ·exact optE h
 exact k x y t rfl rfl h
theorem dA {M : Option D} {f : D → D → Option δ} (h : (match M, A with | some a, some (b, _) => f a b | _, _ => none) = some d) (k : ∀ a b t, M = some a → A = some (b, t) → f a b = some d → G) : G := by
 rcases M with _ | x
 ·exact optE h
 rcases A with _ | ⟨y, t⟩
 ·exact optE h
 exact k x y t rfl rfl h
theorem d1 {M : Option D} {f : D → Option δ} (h : (match M with | some a => f a | none => none) = some d) (k : ∀ a, M = some a → f a = some d → G) : G := by
 cases M with
 | none => exact optE h
 | some x => exact k x rfl h
theorem s2 {f : Slot → D → D → Option δ} (h : (match L, A, B with | some a, some (b, _), some (c, _) => f a b c | _, _, _ => none) = some d) (k : ∀ a b t c t', L = some a → A = some (b, t) → B = some (c, t') → f a b c = some d → G) : G := by
 rcases L with _ | x
 ·exact optE h
 rcases A with _ | ⟨y, t⟩
 ·exact optE h
 rcases B with _ | ⟨z, t'⟩
 ·exact optE h
 exact k x y t z t' rfl rfl rfl h
theorem sS {f : Slot → Option δ} (h : (match L with | some a => f a | none => none) = some d) (k : ∀ a, L = some a → f a = some d → G) : G := by
 cases L with
 | none => exact optE h
 | some x => exact k x rfl h
theorem sSt {f : Str → Option δ} (h : (match L with | some (.fr (.str x)) => f x | _ => none) = some d) (k : ∀ x, L = some (.fr (.str x)) → f x = some d → G) : G := by
 rcases L with _ | x
 ·exact optE h
 have e : (match some x with | some (.fr (.str x)) => f x | _ => none) = (frS x).bind fun y => (I.strD y).bind f := by
  clear h k; cases x <;> first | rfl | (rename_i y; cases y <;> rfl)
 exact bindE (e.symm.trans h) fun y h1 h => bindE h fun z h2 h => k z (by rw [frS_eq h1, I.strD_eq h2]) h
theorem srcF {M : Option (List D × Bool × Bool)} {f : List D → Bool → Option δ} (h : (match M with | some (ds, false, en) => f ds en | _ => none) = some d) (k : ∀ ds en, M = some (ds, false, en) → f ds en = some d → G) : G := by
 rcases M with _ | ⟨ds, _ | _, en⟩
 ·exact optE h
 ·exact k ds en rfl h
 ·exact optE h
theorem andB {a b : Bool} (h : (a && b) = true) (k : a = true → b = true → G) : G := k ((Bool.and_eq_true _ _).mp h).1 ((Bool.and_eq_true _ _).mp h).2
end
section
variable {nm fn : Nat → Str} {FT : List FE} {n : Nat} {sc : Scope} {tp : Bool} {S S' : Sta} {fl : Fl} {m : Fl → Sta → Prop}
@[elab_as_elim] theorem end' {a b : Fl} {s t : Sta} (h : some (a, s) = some (b, t)) (k : m a s) : m b t := by cases h; exact k
theorem mapS {G : Prop} {α : Type} {o : Option α} {g : α → Fl × Sta} {b : Fl × Sta} (h : o.map g = some b) (k : ∀ a, o = some a → g a = b → G) : G := by
 cases o with
 | none => exact optE h
 | some a => exact k a rfl (Option.some.inj h)
@[elab_as_elim] theorem pairE {a b : Fl} {s t : Sta} (h : (a, s) = (b, t)) (k : m a s) : m b t := by cases h; exact k
@[elab_as_elim] theorem asg {i : Nat} {pi : Pos} {e : X} {p : Pos} (h : exS nm fn FT sc tp (n + 1) (.asg i pi e p) S = some (fl, S')) (k : ∀ d, ev nm fn FT n sc e tp (rhoOf S) = some (d, false) → putK nm sc i = true → m .next (S.put i (.fr d))) : m fl S' :=
 mF h fun d h1 h => ifE h fun c h => end' h (k d h1 ((Bool.and_eq_true _ _).mp c).1)
@[elab_as_elim] theorem own {i : Nat} {pi : Pos} {e : X} {p : Pos} (h : exS nm fn FT sc tp (n + 1) (.own i pi e p) S = some (fl, S')) (k : ∀ d sl, ev nm fn FT n sc e tp (rhoT S) = some (d, false) → putK nm sc i = true → slotOf d = some sl → m .next (S.put i sl)) : m fl S' :=
 mF h fun d h1 h => ifE h fun c h => mapS h fun sl h2 e => pairE e (k d sl h1 ((Bool.and_eq_true _ _).mp c).1 h2)
@[elab_as_elim] theorem unp {ts : List (Nat × Pos)} {i : Nat} {pt : Pos} {e : X} {p : Pos} (h : exS nm fn FT sc tp (n + 1) (.unp ts i pt e p) S = some (fl, S'))
  (k : ∀ ds S1, ev nm fn FT n sc e tp (rhoOf S) = some (.tup ds, false) → notTup e = true → (∀ t ∈ ts, putK nm sc t.1 = true) → putMany S ts ds = some S1 → m .next S1) : m fl S' :=
 mTF h fun ds h1 h => ifE h fun c h => mapS h fun S1 h2 e => pairE e (k ds S1 h1 (I.and3 c).1 (List.all_eq_true.mp (I.and3 c).2.1) h2)
@[elab_as_elim] theorem aug {i : Nat} {pi : Pos} {op : BOp} {e : X} {p : Pos} (h : exS nm fn FT sc tp (n + 1) (.aug i pi op e p) S = some (fl, S'))
  (k : ∀ a b t d, S i = some (.fr a) → ev nm fn FT n sc e tp (rhoOf S) = some (b, t) → putK nm sc i = true → mutOp op = true → a.atom = true → binD op a b = some d → m .next (S.put i (.fr d))) : m fl S' :=
 sFr h fun a b t h1 h2 h => ifE h fun c h => d1 h fun d h3 h => end' h (k a b t d h1 h2 (I.and3 c).1 (I.and3 c).2.1 (I.and3 c).2.2 h3)
@[elab_as_elim] theorem ext {i : Nat} {pi : Pos} {e : X} {p : Pos} (h : exS nm fn FT sc tp (n + 1) (.ext i pi e p) S = some (fl, S'))
  (k : ∀ ds es t, S i = some (.li ds) → ev nm fn FT n sc e tp (rhoOf S) = some (.lst es, t) → putK nm sc i = true → es.all D.atom = true → ds.length ≤ listLine ∧ es.length ≤ listLine → m .next (S.put i (.li (ds ++ es)))) : m fl S' :=
 sLL h fun a b t h1 h2 h => ifE h fun c h => end' h (k a b t h1 h2 (I.and3 c).1 (I.and3 c).2.1 (of_decide_eq_true (I.and3 c).2.2))
@[elab_as_elim] theorem augI {i : Nat} {pi : Pos} {kx : X} {ps : Pos} {op : BOp} {e : X} {p : Pos} (h : exS nm fn FT sc tp (n + 1) (.augI i pi kx ps op e p) S = some (fl, S'))
  (k : ∀ sl kd t a b t' d sl', S i = some sl → ev nm fn FT n sc kx tp (rhoOf S) = some (kd, t) → itemD sl.d kd = some a → ev nm fn FT n sc e tp (rhoOf S) = some (b, t') → mutOp op = true → a.atom = true → kd.atom = true → binD op a b = some d → setSlot sl kd d = some sl' → m .next (S.put i sl')) : m fl S' :=
 s1 h fun sl kd t h1 h2 h => dA h fun a b t' h3 h4 h => ifE h fun c h => d1 h fun d h5 h => mapS h fun sl' h6 e => andB c fun c c4 => pairE e (k sl kd t a b t' d sl' h1 h2 h3 h4 (I.and3 c).2.1 (I.and3 c).2.2 c4 h5 h6)
@[elab_as_elim] theorem setI {i : Nat} {pi : Pos} {kx : X} {ps : Pos} {e : X} {p : Pos} (h : exS nm fn FT sc tp (n + 1) (.setI i pi kx ps e p) S = some (fl, S'))
  (k : ∀ sl d t kd t' sl', S i = some sl → ev nm fn FT n sc e tp (rhoOf S) = some (d, t) → ev nm fn FT n sc kx tp (rhoOf S) = some (kd, t') → d.atom = true → kd.atom = true → setSlot sl kd d = some sl' → m .next (S.put i sl')) : m fl S' :=
 s2 h fun sl d t kd t' h1 h2 h3 h => ifE h fun c h => mapS h fun sl' h4 e => pairE e (k sl d t kd t' sl' h1 h2 h3 (I.and3 c).2.1 (I.and3 c).2.2 h4)
@[elab_as_elim] theorem app {i : Nat} {pi pa : Pos} {e : X} {pc p : Pos} (h : exS nm fn FT sc tp (n + 1) (.app i pi pa e pc p) S = some (fl, S'))
  (k : ∀ ds d t, S i = some (.li ds) → ev nm fn FT n sc e tp (rhoOf S) = some (d, t) → d.atom = true → (pa.endLine == pc.line) = true → ds.length ≤ listLine → m .next (S.put i (.li (ds ++ [d])))) : m fl S' :=
 sLi h fun ds d t h1 h2 h => ifE h fun c h => end' h (k ds d t h1 h2 (I.and3 c).1 (I.and3 c).2.1 (of_decide_eq_true (I.and3 c).2.2))
theorem ite {G : Prop} {t : X} {a b : Bl} {p : Pos} (h : exS nm fn FT sc tp (n + 1) (.ite t a b p) S = some (fl, S')) (k1 : evT nm fn FT n sc t tp (rhoOf S) = some true → exB nm fn FT sc tp n a S = some (fl, S') → G) (k2 : evT nm fn FT n sc t tp (rhoOf S) = some false → exB nm fn FT sc tp n b S = some (fl, S') → G) : G :=
 I.bT h k1 k2
theorem for' {G : Prop} {tg : Tg} {src : X} {body : Bl} {p : Pos} (h : exS nm fn FT sc tp (n + 1) (.for tg src body p) S = some (fl, S'))
  (k : ∀ ds en, evSrc nm fn FT n sc src tp (rhoOf S) = some (ds, false, en) → tg.two? = en → (∀ i ∈ tgVars tg, putK nm sc i = true) → loopF (exB nm fn FT sc tp n body) tg ds S = some (fl, S') → G) : G :=
 srcF h fun ds en h1 h => ifE h fun c h => andB c fun c1 c2 => k ds en h1 (eq_of_beq c1) (List.all_eq_true.mp c2) h
@[elab_as_elim] theorem ret {e : X} {p : Pos} (h : exS nm fn FT sc tp (n + 1) (.ret e p) S = some (fl, S')) (k : ∀ d, ev nm fn FT n sc e tp (rhoOf S) = some (d, false) → m (.ret d) S) : m fl S' :=
 mF h fun d h1 h => end' h (k d h1)
@[elab_as_elim] theorem frz {i : Nat} (h : exS nm fn FT sc tp (n + 1) (.frz i) S = some (fl, S')) (k : ∀ sl, S i = some sl → m .next (S.put i (.fr sl.d))) : m fl S' :=
 sS h fun sl h1 h => end' h (k sl h1)
@[elab_as_elim] theorem repIf {i : Nat} {y : Str} {k0 : Nat} {q1 q2 q3 q4 q5 q6 : Pos} {k1 : Nat} {q7 : Pos} {z : Str} {k2 : Nat} {q8 q9 q10 q11 : Pos} (h : exS nm fn FT sc tp (n + 1) (.repIf i y k0 q1 q2 q3 q4 q5 q6 k1 q7 z k2 q8 q9 q10 q11) S = some (fl, S'))
  (k : ∀ x, S i = some (.fr (.str x)) → putK nm sc i = true → (q6.endLine == q9.line) = true → x.length ≤ strLine → z.length ≤ 14 → (y == z) = false → m .next (S.put i (.fr (.str (if Txt.contains x y then Txt.replace x y z else x))))) : m fl S' :=
 sSt h fun x h1 h => ifE h fun c h => end' h (k x h1 (I.and3 c).1 (I.and3 c).2.1 (of_decide_eq_true (I.and3 c).2.2).1 (of_decide_eq_true (I.and3 c).2.2).2.1 (of_decide_eq_true (I.and3 c).2.2).2.2)
end
end J
end
section
section
variable (prog : Program) (w : World)
inductive FlOk (h : Heap) (Wf : Addr → Prop) : Fl → Flow → Prop
 | next : FlOk h Wf .next .next
 | ret {d : D} {u : Value} : R prog w h Wf u d → FlOk h Wf (.ret d) (.ret u)
inductive ExP (nm : Nat → Str) (tp : Bool) (fr : List Env) (env : Env) (sc : Scope) (B : Addr → Prop) (h : Heap) (ad : Nat → List Addr) (fl : Fl) (S' : Sta) (f : Flow) (h' : Heap) : Prop
 | mk (σ' : Str → Option Value) (ad' : Nat → List Addr) (x : SI prog w nm env sc B h' S' σ' ad') (m : Mv tp fr env h ad h' ad') (fo : FlOk prog w h' (Wf B ad') fl f) : ExP nm tp fr env sc B h ad fl S' f h'
end
section
variable {prog : Program} {w : World} {nm fn : Nat → Str} {FT : List FE} {base : Heap} {N : Nat} {A : Around} {fr : List Env} {env : Env} {sc : Scope} {B : Addr → Prop} {h₀ : Heap} {S : Sta} {σ : Str → Option Value} {ad : Nat → List Addr} {s : Shared} {tp : Bool}
theorem Mv.off {M : Addr → Prop} {hs h h' : Heap} {ad' : Nat → List Addr} (x : Mv tp fr env hs ad h ad') (hM : ∀ a, M a → hs.get? a = none) (k : ∀ b o, ¬ M b → h.get? b = some o → h'.get? b = some o) : Mv tp fr env hs ad h' ad' := by
 have nm : ∀ b o, hs.get? b = some o → ¬ M b := fun b o e q => by rw [hM b q] at e; cases e
 exact ⟨fun b o h1 h2 h3 e => k b o (nm b o e) (x.kept b o h1 h2 h3 e), fun b o h1 h3 e => let ⟨sl, e'⟩ := x.slot b o h1 h3 e; ⟨sl, k b _ (nm b o e) e'⟩, fun b o h3 e => let ⟨o', e'⟩ := x.live b o h3 e; ⟨o', k b _ (nm b o e) e'⟩, x.new⟩
theorem load_slot {i : Nat} {sl : Slot} {u : Value} {P : Value → Heap → Prop} (gn : EnvG env) (x : SI prog w nm env sc B s.heap S σ ad) (nmd : (nm i == "__debug__") = false ∧ (nm i == "__classdict__") = false) (hi : S i = some sl) (hu : σ (nm i) = some u) (h : P u s.heap) {A : Around} :
  Ok (model prog w) A (loadName env (nm i)) s P := by
 rcases x.fm.holds (x.sl i sl hi).1 hu with ⟨hk, m, hn, hv⟩ | ⟨hk, c, hc', hv⟩
 ·exact wpAny_loadName_local gn.kind hk hn hv ⟨_, _, rfl, h⟩
 ·rcases hk with hk | hk
  ·exact wpAny_loadName_cell gn.kind hk hc' hv ⟨_, _, rfl, h⟩
  ·exact wpAny_loadName_free gn.kind hk hc' hv ⟨_, _, rfl, h⟩ nmd.2
theorem inplace_ok {op : BOp} {a b d : D} {u v : Value} {Wa Wb W : Addr → Prop} {A : Around} (hm : mutOp op = true) (ha : a.atom = true) (e : binD op a b = some d) (ru : R prog w s.heap Wa u a) (rv : R prog w s.heap Wb v b) :
  Ok (model prog w) A (inplaceOp op.py u v) s (BP prog w W s.heap d) ∧ d.atom = true := by
 revert hm ha ru rv
 refine binE e (fun a b _ _ ru rv => ⟨?_, rfl⟩) (fun a b c _ _ ru rv => ⟨?_, rfl⟩) (fun a b c _ ha => nomatch ha) (fun a b _ _ ru rv => ⟨?_, rfl⟩) (fun a b c hm => nomatch hm) (fun a b c hm => nomatch hm) (fun a b c hm => nomatch hm) (fun a b c hm => nomatch hm) (fun a b c hm => nomatch hm) (fun a b hm => nomatch hm)
 ·exact R.intE ru fun t => R.intE rv fun t' => ok_int fun Q E h => P.iadd_int h
 ·exact R.strE ru fun t => R.strE rv fun t' => ok_str fun Q E h => SB.iadd h (le_line c)
 ·exact R.intE ru fun t => R.intE rv fun t' => ok_int fun Q E h => P.isub_int h
variable (am : Am prog w nm fn FT base N)
include am
theorem SI.name {A' : Around} (gn : EnvG env) (x : SI prog w nm env sc B s.heap S σ ad) {i : Nat} {sl : Slot} {u : Value} (hi : S i = some sl) (hu : σ (nm i) = some u) {Q E : Value → Shared → Prop} (c : ∀ tk, s.toks ≤ tk → Q u (up s s.heap tk)) : wpAny (model prog w) A' (loadName env (nm i)) Q E s :=
 (load_slot (P := fun v h' => v = u ∧ h' = s.heap) gn x (am.nmd i) hi hu ⟨rfl, rfl⟩).wpE c
theorem SI.nameE {A' : Around} (gn : EnvG env) (x : SI prog w nm env sc B s.heap S σ ad) {i : Nat} {sl : Slot} {u : Value} (hi : S i = some sl) (hu : σ (nm i) = some u) {p : Pos} {Q E : Value → Shared → Prop} (c : ∀ tk, s.toks ≤ tk → Q u (up s s.heap tk)) : wpAny (model prog w) A' (eval (.Name (nm i) p) env) Q E s :=
 wpAny_Name (SI.name am gn x hi hu c) (am.nmd i).1
theorem Go.k {n : Nat} {e : X} {v : V} (go : Go A fr base h₀ N env B tp s.heap ad) (x : SI prog w nm env sc B s.heap S σ ad) (hev : ev nm fn FT n sc e tp (rhoOf S) = some v) {Q E : Value → Shared → Prop}
  (c : ∀ u h' tk, s.toks ≤ tk → Kp (SS (env :: fr) tp) s.heap h' → R prog w h' (Wb B ad v.2) u v.1 → SI prog w nm env sc B h' S σ ad → Go A fr base h₀ N env B tp h' ad → Q u (up s h' tk)) : wpAny (model prog w) (A.deeper env) (eval (e.py nm fn) env) Q E s :=
 ((sound am n n (Nat.le_refl _)).ev _ _ _ _ _ hev _ _ _ _ _ (x.st go.gn go.keep (Nat.zero_le _))).wp2 fun u h' tk hn k r => c u h' tk hn k r (x.step go.gn k) (go.move (Mv.eval go.gn k))
theorem Go.kT {n : Nat} {e : X} {b : Bool} (go : Go A fr base h₀ N env B tp s.heap ad) (x : SI prog w nm env sc B s.heap S σ ad) (hev : evT nm fn FT n sc e tp (rhoOf S) = some b) {Q : Bool → Shared → Prop} {E : Value → Shared → Prop}
  (c : ∀ h' tk, s.toks ≤ tk → SI prog w nm env sc B h' S σ ad → Go A fr base h₀ N env B tp h' ad → Mv tp fr env s.heap ad h' ad → Q b (up s h' tk)) : wpAny (model prog w) (A.deeper env) (isTrue (e.py nm fn) env (eval (e.py nm fn) env)) Q E s :=
 (sound am n n (Nat.le_refl _)).kT hev (x.st go.gn go.keep (Nat.zero_le _)) fun h' tk hn k _ => c h' tk hn (x.step go.gn k) (go.move (Mv.eval go.gn k)) (Mv.eval go.gn k)
omit am in
theorem new_off {M : Addr → Prop} {h' : Heap} (x : SI prog w nm env sc B s.heap S σ ad) (hM : ∀ a, M a → s.heap.get? a = none ∧ ∃ o, h'.get? a = some o) : ∀ a, M a → ¬ B a := fun a q z => by obtain ⟨o, e⟩ := x.al a z; rw [(hM a q).1] at e; cases e
theorem ex_asg {n : Nat} {i : Nat} {pi : Pos} {e : X} {p : Pos} {fl : Fl} {S' : Sta} (he : exS nm fn FT sc tp (n + 1) (.asg i pi e p) S = some (fl, S')) (go : Go A fr base h₀ N env B tp s.heap ad)
  (x : SI prog w nm env sc B s.heap S σ ad) (tk : 0 ≤ s.toks) : Ok (model prog w) (A.deeper env) (exec (.Assign [.Name (nm i) pi] (e.py nm fn) p) env) s (ExP prog w nm tp fr env sc B s.heap ad fl S') := by
 refine J.asg he fun d hev hp => ?_
 refine assign_any am (PP := fun M h'' => (∀ a, M a → ¬ B a) ∧ ∃ σ', SI prog w nm env sc (fun a => B a ∨ M a) h'' (S.put i (.fr d)) σ' (adPut ad i []) ∧ Mv tp fr env s.heap ad h'' (adPut ad i [])) (x.st go.gn go.keep tk) hev ⟨σ, x.fm⟩ (fun M u h' tk' hn hM k r => ?_) fun M h'' h''' hM q k => ?_
 ·refine store_fr (tp := tp) (s := up s h' tk') go.gn.more (x.lift go.gn k hM) am.inj hp (r.mono (fun _ _ _ e => e) fun a q => .inl ?_) fun σ' h'' tk'' _ y m kk => fin ⟨kk, new_off x hM, σ', y, (Mv.eval go.gn k).trans m⟩
  exact q.elim (fun q => q.elim (fun q => .inl (.inl q)) .inr) fun q => .inl (.inr q)
 ·obtain ⟨hMB, σ', y, m⟩ := q
  exact ⟨σ', _, y.weak go.gn k hMB, m.off hM k, .next⟩
theorem SI.stT (gn : Gn A fr base h₀ N env B) (x : SI prog w nm env sc B s.heap S σ ad) (keep : Kp (SS fr tp) h₀ s.heap) (tk : 0 ≤ s.toks) :
  St (prog := prog) (w := w) (nm := nm) (A.deeper env) (env :: fr) base N env sc (fun t a => if t = true then B a else ∃ o, s.heap.get? a = some o) (rhoT S) s := by
 have st := x.st gn keep tk
 refine ⟨st.cx, ⟨gn.g, x.sc, σ, x.fm, fun i d t hi => ?_⟩, ⟨fun a q => ?_, fun a q => ?_, fun a q => ?_⟩, tk⟩
 ·unfold rhoT at hi
  split at hi
  rotate_left
  ·cases hi
  rename_i sl hs
  obtain ⟨a, u, b, c⟩ := x.sl i sl hs
  refine ⟨a, u, b, ?_⟩
  have r : R prog w s.heap B u sl.d := c.value (fun _ a q => .inl q) fun a ha => x.nb i a ha
  have r' := R.itV (W := fun t a => if t = true then B a else ∃ o, s.heap.get? a = some o) (t := true) (d := sl.d) (v := u) (h := s.heap) (prog := prog) (w := w) (by simpa using r)
  injection hi with hi
  rw [hi] at r'
  exact r'
 ·simp only [if_true]; exact st.wo.fr a q
 ·simp only [if_true] at q; simp only [Bool.false_eq_true, if_false]; exact x.al a q
 ·simpa using q
omit am in
theorem own_new {d : D} {sl : Slot} {u : Value} {h h' : Heap} {M : Addr → Prop} (hs : slotOf d = some sl) (r : R prog w h' (fun a => (if false = true then B a else ∃ o, h.get? a = some o) ∨ M a) u d) :
  ∃ a, u = .ref a ∧ h.get? a = none ∧ ¬ M a ∧ (∃ o, h'.get? a = some o) ∧ ∀ W, SlotOk prog w h' W sl u [a] := by
 have no : ∀ a, ¬ ((if false = true then B a else ∃ o, h.get? a = some o) ∨ M a) → h.get? a = none ∧ ¬ M a := fun a hw => ⟨by
  cases q : h.get? a with
  | none => rfl
  | some o => exact absurd (.inl (by rw [if_neg Bool.false_ne_true]; exact ⟨o, q⟩)) hw, fun q => hw (.inr q)⟩
 cases d with
 | lst ds => exact ifE hs fun hat e => someE e (R.lstE r fun a us m hw hl rb => ⟨a, rfl, (no a hw).1, (no a hw).2, ⟨_, hl⟩, fun W => .li hl (rb.atoms hat) hat⟩)
 | dct ks ds => exact ifE hs fun hat e => someE e (R.dctE r fun a kvs hw lo hd he rb => ⟨a, rfl, (no a hw).1, (no a hw).2, (by obtain ⟨o, _, _, ho, _⟩ := hd; exact ⟨o, ho⟩), fun W => .di lo hd he (rb.atoms hat) hat⟩)
 | _ => exact optE hs
theorem ex_own {n : Nat} {i : Nat} {pi : Pos} {e : X} {p : Pos} {fl : Fl} {S' : Sta} (he : exS nm fn FT sc tp (n + 1) (.own i pi e p) S = some (fl, S')) (go : Go A fr base h₀ N env B tp s.heap ad)
  (x : SI prog w nm env sc B s.heap S σ ad) (tk : 0 ≤ s.toks) : Ok (model prog w) (A.deeper env) (exec (.Assign [.Name (nm i) pi] (e.py nm fn) p) env) s (ExP prog w nm tp fr env sc B s.heap ad fl S') := by
 refine J.own he fun d sl hev hp hsl => ?_
 refine assign_any am (PP := fun M h'' => (∀ a, M a → ¬ B a) ∧ ∃ σ' ad', SI prog w nm env sc (fun a => B a ∨ M a) h'' (S.put i sl) σ' ad' ∧ Mv tp fr env s.heap ad h'' ad') (x.stT am go.gn go.keep tk) hev ⟨σ, x.fm⟩ (fun M u h' tk' hn hM k r => ?_) fun M h'' h''' hM q k => ?_
 ·have hMB := new_off x hM
  obtain ⟨a, rfl, ha, haM, haA, hslot⟩ := own_new hsl r
  have haB : ¬ B a := fun z => by obtain ⟨o, e⟩ := x.al a z; rw [ha] at e; cases e
  have haAd : ∀ k, a ∉ ad k := fun k q => by
   cases hs : S k with
   | none => rw [x.no k hs] at q; cases q
   | some y => obtain ⟨_, _, _, c⟩ := x.sl k y hs; obtain ⟨o, e⟩ := c.alive a q; rw [ha] at e; cases e
  have x' := x.lift go.gn k hM
  have x'' := x.lift (M := fun b => M b ∨ b = a) go.gn k fun b q => q.elim (hM b) fun q => q ▸ ⟨ha, haA⟩
  refine (store_slot (s := (up s h' tk')) go.gn.more x' am.inj hp (sl := sl) (as := [a]) (hslot _) (fun b hb => ?_) (fun l _ b hb => ?_) (by simp) fun l y v hl hS hv _ => ?_).mono fun _ h'' q => ⟨q.2.1, hMB, _, _, q.1, (Mv.eval go.gn k).store q.2.1 q.2.2 fun b hb => ?_⟩
  ·rw [List.mem_singleton] at hb; subst hb; exact fun q => q.elim haB haM
  ·rw [List.mem_singleton] at hb; subst hb; exact haAd l
  ·have c := x''.at hS hv
   refine c.keep (fun _ _ _ e => e) (fun _ _ _ e => e) fun b q => .inl ?_
   rcases q with (q | q) | ⟨j, q⟩
   ·exact .inl (.inl q)
   ·exact .inl (.inr (.inl q))
   ·unfold adPut at q
    split at q
    ·rw [List.mem_singleton] at q; exact .inl (.inr (.inr q))
    ·exact .inr ⟨j, q⟩
  ·rw [List.mem_singleton] at hb; subst hb; exact .inr ha
 ·obtain ⟨hMB, σ', ad', y, m⟩ := q
  exact ⟨σ', _, y.weak go.gn k hMB, m.off hM k, .next⟩
theorem ex_aug {n : Nat} {i : Nat} {pi : Pos} {op : BOp} {e : X} {p : Pos} {fl : Fl} {S' : Sta} (he : exS nm fn FT sc tp (n + 1) (.aug i pi op e p) S = some (fl, S')) (go : Go A fr base h₀ N env B tp s.heap ad)
  (x : SI prog w nm env sc B s.heap S σ ad) (tk : 0 ≤ s.toks) : Ok (model prog w) (A.deeper env) (exec (.AugAssign (.Name (nm i) pi) op.py (e.py nm fn) p) env) s (ExP prog w nm tp fr env sc B s.heap ad fl S') := by
 refine J.aug he fun a b tb d hi hev hp hm ha hd => x.frE hi fun u hu _ => wpAny_AugAssign_Name (SI.name am go.gn.g x hi hu fun tk1 hn1 => Go.k (s := up s s.heap tk1) am go x hev fun v2 h2 tk2 hn2 k2 r2 x2 go2 => ?_)
 have ru : R prog w h2 (fun _ => False) u a := x2.frE hi fun u' hu' r => Option.some.inj (hu'.symm.trans hu) ▸ r.of_atom ha
 obtain ⟨ok, hat⟩ := inplace_ok (s := up s h2 tk2) (W := fun _ => False) (A := A.deeper env) hm ha hd ru r2
 refine ok.wp2 fun v3 h3 tk3 hn3 k3 r3 => ?_
 have k3' : Kp (SS (env :: fr) tp) s.heap h3 := k2.trans (Kp.of k3)
 exact store_fr (tp := tp) (s := up s h3 tk3) go.gn (x.step go.gn k3') am.inj hp (r3.of_atom hat) fun σ' h4 tk4 hn4 y m _ => fin ⟨_, _, y, (Mv.eval go.gn k3').trans m, .next⟩
end
end
section
section
variable {prog : Program} {w : World} {nm fn : Nat → Str} {FT : List FE} {base : Heap} {N : Nat} {A : Around} {fr : List Env} {env : Env} {sc : Scope} {B : Addr → Prop} {h₀ : Heap} {S : Sta} {σ : Str → Option Value} {ad : Nat → List Addr} {s : Shared} {tp : Bool}
theorem setItem_plain {E : Value → Shared → Prop} {l : Addr} {us : List Value} {m : Nat} {k : Int} {t : Tok} {v : Value} {Q : Unit → Shared → Prop} (ho : s.heap.get? l = some (sq "list" us m)) (h0 : 0 ≤ k) (hfit : k < 2 ^ 63) (hn : k < us.length)
  (hQ : ∀ h' m', h'.get? l = some (sq "list" (us.set k.toNat v) m') → Heap.SameBut l s.heap h' → Q () { s with heap := h' }) :
  wpAny (model prog w) A (setItem (.ref l) (.int k t) v) Q E s := by
 have hl := isList_of_sq ho
 unfold setItem
 try with_reducible refine wpAny_holding ?_
 first | refine wpAny_bind (wpAny_pure ?_) | skip
 refine wpAny_bind (wpAny_sequenceKey hl.typeIs (by decide) ?_)
 refine wpAny_bind (wpAny_callSpecial?_slot (name := Str.ofString "__setitem__") hl.typeIs slot_list_setitem
  (wpAny_call_entry slot_list_setitem hl.typeIs entry_list_setitem ?_ (args_list_setitem _ _ _)))
 show wpAny _ _ (Builtin.List.listSubscript? (.int k t) >>= _) _ _ s
 refine wpAny_bind (wpAny_listSubscript_int (fitsIndex_of h0 hfit) ?_)
 clear hfit
 obtain ⟨j, rfl⟩ := Int.eq_ofNat_of_zero_le h0
 have hj : j < us.toArray.size := by rw [List.size_toArray]; omega
 have hx' : us.toArray[j]? = some us.toArray[j] := Array.getElem?_eq_getElem hj
 show wpAny _ _ ((seqItemAt l j >>= fun r => pure (r.map (j, ·))) >>= _) _ _ s
 refine wpAny_bind (wpAny_bind (wpAny_seqItemAt ho rfl (wpAny_pure ?_)))
 rw [hx']
 show wpAny _ _ (setSeqItemAt l j v >>= _) _ _ s
 have e1 : ∃ m', Obj.mapSeq (·.setIfInBounds j v) (sq "list" us m) = sq "list" (us.set j v) m' := by
  obtain ⟨m', hm⟩ := Obj.data_mapSeq (o := sq "list" us m) rfl (·.setIfInBounds j v)
  refine ⟨m', ?_⟩
  have e2 : us.toArray.setIfInBounds j v = (us.set j v).toArray := by simp
  rw [e2] at hm
  have e3 : Obj.mapSeq (·.setIfInBounds j v) (sq "list" us m) = { sq "list" us m with data := (Obj.mapSeq (·.setIfInBounds j v) (sq "list" us m)).data } := by
   unfold Obj.mapSeq; rfl
  rw [e3, hm]
 obtain ⟨m', e1⟩ := e1
 refine wpAny_bind (wpAny_setSeqItemAt ho rfl ?_)
 have hfin : (s.heap.update l (Obj.mapSeq (·.setIfInBounds j v))).get? l = some (sq "list" (us.set j v) m') := by
  rw [Heap.get?_update_self _ ho (by rw [e1]; rfl), e1]
 first
  | exact wpAny_bind (wpAny_pure (wpAny_pure ⟨.none, rfl, wpAny_pure (hQ _ _ hfin (Heap.SameBut.update ..))⟩))
  | exact wpAny_pure ⟨.none, rfl, wpAny_pure (hQ _ _ hfin (Heap.SameBut.update ..))⟩
theorem all_set {ds : List D} {d : D} (k : Nat) (h : ds.all D.atom = true) (hd : d.atom = true) : (ds.set k d).all D.atom = true := by
 rw [List.all_eq_true] at h ⊢
 intro x hx
 rcases List.mem_or_eq_of_mem_set hx with hx | rfl
 ·exact h x hx
 ·exact hd
theorem all_storeD {d : D} (hd : d.atom = true) : ∀ (ks : List Str) (ds : List D) (x : Str), ds.all D.atom = true → (storeD ks ds x d).2.all D.atom = true
 | [], [], x, h => (Bool.and_eq_true _ _).mpr ⟨hd, rfl⟩
 | [], _ :: _, x, h => (Bool.and_eq_true _ _).mpr ⟨hd, rfl⟩
 | _ :: _, [], x, h => (Bool.and_eq_true _ _).mpr ⟨hd, rfl⟩
 | k :: ks, e :: ds, x, h => by
  rw [List.all_cons, Bool.and_eq_true] at h
  have eq : storeD (k :: ks) (e :: ds) x d = if k = x then (k :: ks, d :: ds) else (k :: (storeD ks ds x d).1, e :: (storeD ks ds x d).2) := rfl
  rw [eq]
  by_cases c : k = x
  ·rw [if_pos c]; exact (Bool.and_eq_true _ _).mpr ⟨hd, h.2⟩
  ·rw [if_neg c]; exact (Bool.and_eq_true _ _).mpr ⟨h.1, all_storeD hd ks ds x h.2⟩
theorem setItem_ok {sl sl' : Slot} {u v kv : Value} {as : List Addr} {W W1 W2 : Addr → Prop} {kd d : D} (hs : setSlot sl kd d = some sl') (hsl : SlotOk prog w s.heap W sl u as) (rk : R prog w s.heap W1 kv kd) (rv : R prog w s.heap W2 v d) {W' : Addr → Prop} :
  Ok (model prog w) A (setItem u kv v) s (fun _ h' => (∀ b o, b ∉ as → s.heap.get? b = some o → h'.get? b = some o) ∧ SlotOk prog w h' W' sl' u as) := by
 cases sl with
 | li ds =>
  cases kd with
  | int j =>
   refine ifE hs fun hg e => someE e (R.intE rk fun t => ?_)
   cases hsl with | @li a us m _ hl rl hat =>
   have hlen := rl.length
   have hz : ds.length ≤ 100000 := hg.2.2.1
   refine setItem_plain hl hg.1 (by have := hg.2.1; omega) (by rw [hlen]; exact hg.2.1) fun h' m' hl' hsb => ⟨_, _, rfl, fun b o hb e => (hsb.2 b fun q => hb (q ▸ List.mem_singleton.mpr rfl)).trans e, ?_⟩
   exact .li hl' ((rl.set (rv.of_atom hg.2.2.2) j.toNat).atoms (all_set _ hat hg.2.2.2)) (all_set _ hat hg.2.2.2)
  | _ => exact optE hs
 | di ks ds =>
  cases kd with
  | str x =>
   refine ifE hs fun hg e => someE e (R.strE rk fun t => ?_)
   cases hsl with | @di a kvs _ _ lo hd he rl hat =>
   rw [he] at hg ⊢
   have hnd : (kvs.map (·.1)).Nodup := by obtain ⟨_, _, _, _, _, _, _, _, q⟩ := hd; exact q
   have hst := storeD_ok (W := fun _ => False) (rv.of_atom hg.2 (h' := s.heap)) (x := x) rl hnd
   have hz := hg.1
   rw [List.length_map] at hz
   exact wpAny_setItem_pairs (strKind_is prog w _ _) hd (fun h' hd' hsb => ⟨_, _, rfl, fun b o hb e => (hsb.2 b fun q => hb (q ▸ List.mem_singleton.mpr rfl)).trans e, .di lo hd' hst.1.symm (hst.2.atoms (all_storeD hg.2 _ _ _ hat)) (all_storeD hg.2 _ _ _ hat)⟩) (by rw [sizeLine_eq]; have : kvs.length ≤ 100000 := hz; omega)
  | _ => exact optE hs
 | _ => cases kd <;> exact optE hs
theorem swaps_sub (e kx : X) {x : Str} {p ps : Pos} {l : Nat} : swapsWith (e.py nm fn) (some (.Subscript (.Name x p) (kx.py nm fn) ps)) l env = pure false := by cases e <;> rfl
theorem aug_py (kx : X) (ov iv new : Value) : augStore (kx.py nm fn) ov iv new = (do holding [new, ov, iv] (setItem ov iv new); release [new, ov, iv] []; pure Flow.next) := by cases kx <;> rfl
variable (am : Am prog w nm fn FT base N)
include am
theorem ex_setI {n : Nat} {i : Nat} {pi : Pos} {kx : X} {ps : Pos} {e : X} {p : Pos} {fl : Fl} {S' : Sta} (he : exS nm fn FT sc tp (n + 1) (.setI i pi kx ps e p) S = some (fl, S')) (go : Go A fr base h₀ N env B tp s.heap ad)
  (x : SI prog w nm env sc B s.heap S σ ad) (tk : 0 ≤ s.toks) : Ok (model prog w) (A.deeper env) (exec (.Assign [.Subscript (.Name (nm i) pi) (kx.py nm fn) ps] (e.py nm fn) p) env) s (ExP prog w nm tp fr env sc B s.heap ad fl S') := by
 refine J.setI he fun sl d td kd tk' sl' hi hev hkv hd hkd hset => ?_
 refine wpAny_Assign_Subscript (Go.k am go x hev fun v h1 tk1 hn1 k1 r1 x1 go1 => x1.slE hi fun u hu _ => SI.nameE (s := up s h1 tk1) am go.gn.g x1 hi hu fun tk2 hn2 => Go.k (s := up s h1 tk2) am go1 x1 hkv fun v3 h3 tk3 hn3 k3 r3 x3 _ => ?_) (swaps_sub e kx)
 refine (setItem_ok (s := up s h3 tk3) (W' := Wf B ad) hset (x3.at hi hu) r3 (r1.of_atom hd (h' := h3) (W' := fun _ => False))).wp2 fun _ h4 tk4 hn4 k4 c4 => ?_
 have ym := own_change (tp := tp) (s := up s h3 tk3) x3 hi hu go.gn k4 c4
 exact fin ⟨_, _, ym.1, ((Mv.eval go.gn k1).trans (Mv.eval go.gn k3)).trans ym.2, .next⟩
theorem ex_augI {n : Nat} {i : Nat} {pi : Pos} {kx : X} {ps : Pos} {op : BOp} {e : X} {p : Pos} {fl : Fl} {S' : Sta} (he : exS nm fn FT sc tp (n + 1) (.augI i pi kx ps op e p) S = some (fl, S')) (go : Go A fr base h₀ N env B tp s.heap ad)
  (x : SI prog w nm env sc B s.heap S σ ad) (tk : 0 ≤ s.toks) : Ok (model prog w) (A.deeper env) (exec (.AugAssign (.Subscript (.Name (nm i) pi) (kx.py nm fn) ps) op.py (e.py nm fn) p) env) s (ExP prog w nm tp fr env sc B s.heap ad fl S') := by
 refine J.augI he fun sl kd tk' a b tb d sl' hi hkv hitem hev hm ha hkd hd hset => x.slE hi fun u hu _ => ?_
 refine wpAny_AugAssign_SubscriptAny (SI.nameE am go.gn.g x hi hu fun tk1 hn1 => Go.k (s := up s s.heap tk1) am go x hkv fun v2 h2 tk2 hn2 k2 r2 x2 go2 => ?_) (aug_py kx)
 have rv : R prog w h2 (Wb B ad true) u sl.d := (x2.at hi hu).value (fun _ a q => .inl q) fun a ha => x2.nb i a ha
 obtain ⟨T, id, hT, hl, gok⟩ := getItem_ok (A := A.deeper env) (s := up s h2 tk2) hitem rv r2
 refine gok.wp2 fun v3 h3 tk3 hn3 k3 r3 => ?_
 have k3' : Kp (SS (env :: fr) tp) h2 h3 := Kp.of k3
 refine Go.k (s := up s h3 tk3) am (go2.move (Mv.eval go.gn k3')) (x2.step go.gn k3') hev fun v4 h4 tk4 hn4 k4 r4 x4 _ => ?_
 obtain ⟨ok, hat⟩ := inplace_ok (s := up s h4 tk4) (W := fun _ => False) (A := A.deeper env) hm ha hd (r3.of_atom ha (h' := h4) (W' := fun _ => False)) r4
 refine ok.wp2 fun v5 h5 tk5 hn5 k5 r5 => ?_
 have k5' : Kp (SS (env :: fr) tp) h4 h5 := Kp.of k5
 have x5 := x4.step go.gn k5'
 refine (setItem_ok (s := up s h5 tk5) (W' := Wf B ad) hset (x5.at hi hu) (r2.of_atom hkd (h' := h5) (W' := fun _ => False)) r5).wp2 fun _ h6 tk6 hn6 k6 c6 => ?_
 have ym := own_change (tp := tp) (s := up s h5 tk5) x5 hi hu go.gn k6 c6
 exact fin ⟨_, _, ym.1, ((Mv.eval go.gn k2).trans (Mv.eval go.gn ((k3'.trans k4).trans k5'))).trans ym.2, .next⟩
theorem kind_no_inter (g : EnvG env) : interactive env = false := by unfold interactive; rw [g.kind]; rfl
theorem ex_app {n : Nat} {i : Nat} {pi pa : Pos} {e : X} {pc p : Pos} {fl : Fl} {S' : Sta} (he : exS nm fn FT sc tp (n + 1) (.app i pi pa e pc p) S = some (fl, S')) (go : Go A fr base h₀ N env B tp s.heap ad)
  (x : SI prog w nm env sc B s.heap S σ ad) (tk : 0 ≤ s.toks) : Ok (model prog w) (A.deeper env) (exec (.Expr (.Call (.Attribute (.Name (nm i) pi) "append" pa) [e.py nm fn] [] pc) p) env) s (ExP prog w nm tp fr env sc B s.heap ad fl S') := by
 refine J.app he fun ds d td hi hev hat hpos hz => x.liE hi fun a us0 m0 hu hadi hl0 _ _ => ?_
 refine wpAny_Expr_any ?_ (kind_no_inter am go.gn.g) rfl
 refine wpAny_Call_method_lateS rfl (by rw [star_py]; rfl) hpos (SI.nameE am go.gn.g x hi hu fun tk1 hn1 => ⟨"list", "list.append", F.plainAttrs_list, F.slot_list_append, F.type_list_append, ⟨_, hl0, rfl⟩, (fun b q => by cases q; exact ⟨_, hl0, rfl⟩), ?_⟩)
 rw [star_py]
 refine callWith_builtin rfl (evalArgs_plain (spliced_cons (Go.k (s := up s s.heap tk1) am go x hev fun v2 h2 tk2 hn2 k2 r2 x2 _ => spliced_nil ?_)))
 refine x2.liE hi fun a' us m hu' _ hl rl hds => ?_
 cases (Option.some.inj (hu.symm.trans hu') : Value.ref a = .ref a')
 refine wpAny_list_append_plain (items := us.toArray) ⟨m, hl⟩ (fun h3 hl3 hsb => ?_) (by rw [List.size_toArray, rl.length, sizeLine_eq]; have : ds.length ≤ 100000 := hz; omega)
 obtain ⟨m', hl3⟩ := hl3
 rw [show ({ cls := .type "list", data := .seq (us.toArray.push v2) m' } : Obj) = sq "list" (us ++ [v2]) m' by simp [sq]] at hl3
 have hat' : (ds ++ [d]).all D.atom = true := by rw [List.all_append, hds]; exact (Bool.and_eq_true _ _).mpr ⟨rfl, (Bool.and_eq_true _ _).mpr ⟨hat, rfl⟩⟩
 have ym := own_change (tp := tp) (s := up s h2 tk2) (h' := h3) (sl' := .li (ds ++ [d])) x2 hi hu go.gn (fun b o hb e => (hsb.2 b fun q => hb (by rw [hadi]; exact List.mem_singleton.mpr q)).trans e)
  (by rw [hadi]; exact .li hl3 ((rl.append (.cons (r2.of_atom hat) .nil)).atoms hat') hat')
 exact fin ⟨_, _, ym.1, (Mv.eval go.gn k2).trans ym.2, .next⟩
end
end
section
section
variable {prog : Program} {w : World} {nm fn : Nat → Str} {FT : List FE} {base : Heap} {N : Nat} {A : Around} {fr : List Env} {env : Env} {sc : Scope} {B : Addr → Prop} {h₀ : Heap} {S : Sta} {σ : Str → Option Value} {ad : Nat → List Addr} {s : Shared} {tp : Bool}
theorem nextV_ok {I : Addr} {fp wr : List Addr} {ds : List D} {en : Bool} {h₁ : Heap} {Wt W : Addr → Prop} {At : Nat → Heap → Prop} {i : Nat} {d : D} {tg : Tg}
  (hw : Wk prog w A I fp wr ds en h₁ Wt At) (hat : At i s.heap) (hi : ds[i]? = some d) (two : tg.two? = en)
  (wrW : ∀ a ∈ wr, W a) (hWt : ∀ a, W a → Wt a ∨ a ∈ wr ∨ h₁.get? a = none) (kp : ∀ b o, ¬ Wt b → b ∉ wr → h₁.get? b = some o → s.heap.get? b = some o) {E : Value → Shared → Prop} {Q : Value → Shared → Prop} {QQ : Option Value → Shared → Prop}
  (hfin : ∀ v s₁, wpAny (model prog w) A (letOwnedTupleGo (tg.py nm) (.ref I) v) (fun _ s₂ => Q v s₂) E s₁ → QQ (some v) s₁)
  (hQ : ∀ v h' tk, s.toks ≤ tk → At (i + 1) h' → (∀ b o, b ∉ wr → s.heap.get? b = some o → h'.get? b = some o) → TgVal prog w h' W v d tg → Q v (up s h' tk)) :
  wpAny (model prog w) A (pyNext (.ref I)) QQ E s := by
 have hlt : i < ds.length := (List.getElem?_eq_some_iff.mp hi).1
 have lift : ∀ {h' : Heap} {v : Value} {d : D}, (∀ b o, b ∉ wr → s.heap.get? b = some o → h'.get? b = some o) → R prog w h₁ (fun a => Wt a ∨ a ∈ wr) v d → R prog w h' W v d := fun {h' v d} hk r =>
  r.mono (fun b o hb eb => hk b o (fun z => hb (.inr z)) (kp b o (fun z => hb (.inl z)) (fun z => hb (.inr z)) eb)) fun a z => (hWt a z).elim (fun q => .inl (.inl q)) fun q => q.elim (fun q => .inl (.inr q)) .inr
 refine tokK ?_
 revert two hQ hfin
 refine hw.elim (fun P W0 hP two => ?_) (fun P Mid W0 hP two => ?_)
 ·exact Tg.oneE two fun k p hfin hQ => W0.item i s _ _ hlt hat fun v h₁ tk₁ hPv hat₁ hk₁ hn => hfin v _ (wpAny_of_eq (a := ()) rfl (hQ v _ _ hn hat₁ hk₁ (lift hk₁ (hP i v d hPv hi))))
 ·refine Tg.twoE two fun k p j q kk r hfin hQ => W0.item i s _ _ hlt hat fun tup vals h₁ tk₁ hPv hTs hT hmid hk₁ hn => hfin (.ref tup) _ ?_
  obtain ⟨a, b, da, db, rfl, hd, ra, rb⟩ := hP i vals d hPv hi
  refine W0.go _ _ _ i tup _ _ _ hmid fun h₂ hat₂ hk₂ => ?_
  have hk12 : ∀ b o, b ∉ wr → s.heap.get? b = some o → h₂.get? b = some o := fun b o hb eb => hk₂ b o hb (hk₁ b o hb eb)
  have hT2 : h₂.IsTuple tup #[a, b] := by
   obtain ⟨o, ho, hc, n, hd⟩ := hT
   exact ⟨o, hk₂ tup o (W0.apart i tup _ hmid) ho, hc, n, hd⟩
  exact hQ _ h₂ tk₁ hn hat₂ hk12 ⟨tup, a, b, da, db, rfl, hd, hT2, lift hk12 ra, lift hk12 rb⟩
theorem SI.off {wr : List Addr} {h h' : Heap} (x : SI prog w nm env sc B h S σ ad) (k : ∀ b o, b ∉ wr → h.get? b = some o → h'.get? b = some o) (hB : ∀ b ∈ wr, B b) (hF : ∀ b ∈ wr, ¬ Fm.all env b) (hal : ∀ b ∈ wr, ∃ o, h'.get? b = some o) : SI prog w nm env sc B h' S σ ad := by
 refine ⟨x.sc, x.fm.keep fun a o q e => k a o (fun z => hF a z q) e, fun i z hi => ?_, x.no, x.nb, x.dj, x.nd, fun a q => ?_⟩
 ·obtain ⟨a, u, b, c⟩ := x.sl i z hi
  exact ⟨a, u, b, c.keep (fun b hb o e => k b o (fun q => x.nb i b hb (hB b q)) e) (fun b o hb e => k b o (fun q => hb (.inl (hB b q))) e) fun a q => .inl q⟩
 ·by_cases hw : a ∈ wr
  ·exact hal a hw
  ·obtain ⟨o, e⟩ := x.al a q; exact ⟨o, k a o hw e⟩
theorem putMany_ok {A' : Around} (gn : Gn A fr base h₀ N env B) (inj : ∀ i j, nm i = nm j → i = j) : ∀ (ts : List (Nat × Pos)) (ds : List D) (us : List Value) (S S' : Sta) (σ : Str → Option Value) (ad : Nat → List Addr) (s : Shared),
  putMany S ts ds = some S' → RL prog w s.heap (Wf B ad) us ds → (∀ t ∈ ts, putOk sc (nm t.1) = true) → SI prog w nm env sc B s.heap S σ ad →
  Ok (model prog w) A' (assignInOrder (ts.map fun t => assign (.Name (nm t.1) t.2) env) us) s (fun _ h' => ∃ σ' ad', SI prog w nm env sc B h' S' σ' ad' ∧ Mv tp fr env s.heap ad h' ad')
 | [], [], us, S, S', σ, ad, s, hp, r, _, x => RL.nilE (ms := fun us => Ok (model prog w) A' (assignInOrder [] us) s _) r (someE hp (assignInOrder_nil (fin ⟨σ, ad, x, Mv.refl⟩)))
 | [], _ :: _, _, _, _, _, _, _, hp, _, _, _ => optE hp
 | _ :: _, [], _, _, _, _, _, _, hp, _, _, _ => optE hp
 | t :: ts, d :: ds, us, S, S', σ, ad, s, hp, r, hk, x => by
  revert r
  intro r
  refine RL.consE r fun u us r1 r2 => ?_
  show Ok _ A' (assignInOrder (assign (.Name (nm t.1) t.2) env :: ts.map _) (u :: us)) s _
  refine assignInOrder_cons (wpAny_assign_Name (store_fr (tp := tp) gn x inj (hk t List.mem_cons_self) r1 fun σ1 h1 tk1 hn1 y m1 k1 => ?_))
  refine (putMany_ok gn inj ts ds us _ S' _ _ (up s h1 tk1) hp (r2.mono (fun b o hb e => k1 b o (fun q => hb (.inl (atB gn q))) e) fun a q => .inl q.put0) (fun t' ht => hk t' (List.mem_cons_of_mem _ ht)) y).wp fun _ h2 tk2 hn2 q => ?_
  obtain ⟨σ', ad', z, m2⟩ := q
  exact fin ⟨σ', ad', z, m1.trans m2⟩
theorem assignEach_names (ts : List (Nat × Pos)) : assignEach (ts.map fun t => Expr.Name (nm t.1) t.2) env = ts.map fun t => (false, assign (.Name (nm t.1) t.2) env) := by
 induction ts with
 | nil => rfl
 | cons t ts ih => rw [List.map_cons, List.map_cons, ← ih]; rfl
theorem tuple_ok {A' : Around} (hh : A'.handled = none) (gn : Gn A fr base h₀ N env B) (inj : ∀ i j, nm i = nm j → i = j) {ts : List (Nat × Pos)} {kk : Nat} {pt : Pos} {us : List Value} {ds : List D} {T : Addr} {S' : Sta} (hT : s.heap.IsTuple T us.toArray)
  (hp : putMany S ts ds = some S') (r : RL prog w s.heap (Wf B ad) us ds) (hk : ∀ t ∈ ts, putOk sc (nm t.1) = true) (x : SI prog w nm env sc B s.heap S σ ad) (hl : ts.length = us.length) :
  Ok (model prog w) A' (assign (.Tuple (ts.map fun t => .Name (nm t.1) t.2) kk pt) env (.ref T)) s (fun _ h' => ∃ σ' ad', SI prog w nm env sc B h' S' σ' ad' ∧ Mv tp fr env s.heap ad h' ad') := by
 refine wpAny_assign_Tuple hh hT (by rw [assignEach_names, List.length_map, List.size_toArray, hl]) ?_ fun h₁ he₁ => ?_
 ·rw [assignEach_names, List.findIdx?_eq_none_iff]
  intro y hy
  obtain ⟨t, _, rfl⟩ := List.mem_map.mp hy
  rfl
 ·have up : ∀ c o, s.heap.get? c = some o → h₁.get? c = some o := fun c o e => he₁ c o (Nat.ne_of_lt (Heap.lt_size e)) e
  have x1 := x.step (tp := tp) gn (Kp.of up)
  rw [assignEach_names, List.map_map]
  refine (putMany_ok (tp := tp) gn inj ts ds us S S' σ ad { s with heap := h₁ } hp (r.mono (fun b o _ e => up b o e) fun a q => .inl q) hk x1).wp fun _ h2 tk2 hn2 q => ?_
  obtain ⟨σ', ad', y, m⟩ := q
  exact fin ⟨σ', ad', y, (Mv.eval gn (Kp.of up)).trans m⟩
theorem putMany_len : ∀ (ts : List (Nat × Pos)) (ds : List D) (S S' : Sta), putMany S ts ds = some S' → ts.length = ds.length
 | [], [], _, _, _ => rfl
 | [], _ :: _, _, _, h => optE h
 | _ :: _, [], _, _, h => optE h
 | t :: ts, d :: ds, S, S', h => congrArg (· + 1) (putMany_len ts ds _ S' h)
theorem swaps_tup (e : X) {ts : List Expr} {k : Nat} {p : Pos} {l : Nat} : swapsWithSole [.Tuple ts k p] (e.py nm fn) l env = pure false := by cases e <;> rfl
theorem stores_tup {e : X} (h : notTup e = true) {ts : List Expr} {k : Nat} {p : Pos} : swappedStores [.Tuple ts k p] (e.py nm fn) env = pure none := by cases e <;> first | rfl | exact absurd h Bool.false_ne_true
variable (am : Am prog w nm fn FT base N)
include am
theorem ex_unp {n : Nat} {ts : List (Nat × Pos)} {kk : Nat} {pt : Pos} {e : X} {p : Pos} {fl : Fl} {S' : Sta} (he : exS nm fn FT sc tp (n + 1) (.unp ts kk pt e p) S = some (fl, S')) (go : Go A fr base h₀ N env B tp s.heap ad)
  (x : SI prog w nm env sc B s.heap S σ ad) (tk : 0 ≤ s.toks) : Ok (model prog w) (A.deeper env) (exec (.Assign [.Tuple (ts.map fun t => .Name (nm t.1) t.2) kk pt] (e.py nm fn) p) env) s (ExP prog w nm tp fr env sc B s.heap ad fl S') := by
 refine J.unp he fun ds S1 hev hnt hk hput => ?_
 refine wpAny_Assign_stores (Go.k am go x hev fun v h1 tk1 hn1 k1 r1 x1 _ => R.tupE r1 fun T us m hw hl rl => ?_) (swaps_tup e) (stores_tup hnt)
 refine (tuple_ok (A' := A.deeper env) (kk := kk) (pt := pt) (tp := tp) (s := up s h1 tk1) go.gn.cx.hd go.gn am.inj (isTup_of_sq hl) hput rl hk x1 (by rw [putMany_len _ _ _ _ hput, rl.length])).wp fun _ h2 tk2 hn2 q => ?_
 obtain ⟨σ', ad', y, m⟩ := q
 exact fin ⟨σ', ad', y, (Mv.eval go.gn k1).trans m, .next⟩
end
end
section
section
variable {prog : Program} {w : World} {nm fn : Nat → Str} {FT : List FE} {base : Heap} {N : Nat} {A : Around} {fr : List Env} {env : Env} {sc : Scope} {B : Addr → Prop} {h₀ : Heap} {S : Sta} {σ : Str → Option Value} {ad : Nat → List Addr} {s : Shared} {tp : Bool}
theorem Go.more {M : Addr → Prop} {h : Heap} (g : Go A fr base h₀ N env B tp h ad) : Go A fr base h₀ N env (fun a => B a ∨ M a) tp h ad := ⟨g.gn.more, g.keep, g.nw, g.fmN⟩
theorem FlOk.mono {h : Heap} {W W' : Addr → Prop} {fl : Fl} {f : Flow} (x : FlOk prog w h W fl f) (hW : ∀ a, W' a → W a) : FlOk prog w h W' fl f := by
 cases x with
 | next => exact .next
 | ret r => exact .ret (r.mono (fun _ _ _ e => e) fun a q => .inl (hW a q))
variable (prog w nm fn FT base N) in
structure SoundS (n : Nat) : Prop where
 s : ∀ A fr env sc tp B h₀ st S fl S', exS nm fn FT sc tp n st S = some (fl, S') → ∀ σ ad s, Go A fr base h₀ N env B tp s.heap ad → SI prog w nm env sc B s.heap S σ ad → 0 ≤ s.toks → ∀ rest P,
  (∀ f h' tk, s.toks ≤ tk → ExP prog w nm tp fr env sc B s.heap ad fl S' f h' → match (generalizing := false) f with
   | .next => Ok (model prog w) (A.deeper env) (execs rest env) (up s h' tk) P
   | f => P f h') → Ok (model prog w) (A.deeper env) (execs (st.py nm fn ++ rest) env) s P
 b : ∀ A fr env sc tp B h₀ st S fl S', exB nm fn FT sc tp n st S = some (fl, S') → ∀ σ ad s, Go A fr base h₀ N env B tp s.heap ad → SI prog w nm env sc B s.heap S σ ad → 0 ≤ s.toks →
  Ok (model prog w) (A.deeper env) (execs (st.py nm fn) env) s (ExP prog w nm tp fr env sc B s.heap ad fl S')
 w : ∀ A fr env sc tp B h₀ t body S fl S', exW nm fn FT sc tp n t body S = some (fl, S') → ∀ σ ad s, Go A fr base h₀ N env B tp s.heap ad → SI prog w nm env sc B s.heap S σ ad → 0 ≤ s.toks →
  codeAny (model prog w) (A.deeper env) (.whileLoop (t.py nm fn) (body.py nm fn) [] env) (fun r s' => ∃ f, r = .ok f ∧ ∃ h' tk, s' = (up s h' tk) ∧ s.toks ≤ tk ∧ ExP prog w nm tp fr env sc B s.heap ad fl S' f h') s
theorem one_then {A : Around} {st : Stmt} {rest : List Stmt} {P P' : Flow → Heap → Prop} (h : Ok (model prog w) A (exec st env) s P)
  (k : ∀ f h' tk, s.toks ≤ tk → P f h' → match (generalizing := false) f with
   | .next => Ok (model prog w) A (execs rest env) (up s h' tk) P'
   | f => P' f h') : Ok (model prog w) A (execs (st :: rest) env) s P' := by
 refine wpAny_execs_cons (h.wp fun f h' tk hn q => ?_)
 have := k f h' tk hn q
 cases f with
 | next => exact wpAny_mono this (fun _ s' q => let ⟨h'', tk', e, p⟩ := q; ⟨h'', tk', e, p⟩) fun _ _ q => q
 | brk => exact ⟨_, _, rfl, this⟩
 | cont => exact ⟨_, _, rfl, this⟩
 | ret v => exact ⟨_, _, rfl, this⟩
variable (am : Am prog w nm fn FT base N)
include am
theorem ex_ret {n : Nat} {e : X} {p : Pos} {fl : Fl} {S' : Sta} (he : exS nm fn FT sc tp (n + 1) (.ret e p) S = some (fl, S')) (go : Go A fr base h₀ N env B tp s.heap ad)
  (x : SI prog w nm env sc B s.heap S σ ad) (tk : 0 ≤ s.toks) : Ok (model prog w) (A.deeper env) (exec (.Return (some (e.py nm fn)) p) env) s (ExP prog w nm tp fr env sc B s.heap ad fl S') := by
 exact J.ret he fun d hev => wpAny_Return_some (Go.k am go x hev fun v h1 tk1 hn1 k1 r1 x1 _ => fin ⟨σ, ad, x1, Mv.eval go.gn k1, .ret r1⟩)
omit am in
theorem loopE {G : Prop} {f : Sta → Option (Fl × Sta)} {tg : Tg} {d : D} {r : List D} {S : Sta} {x : Fl × Sta} (h : loopF f tg (d :: r) S = some x) (k : ∀ S₂ fl1 S3, bindS tg d S = some S₂ → f S₂ = some (fl1, S3) → (match fl1 with
  | .next => loopF f tg r S3
  | .ret v => some (.ret v, S3)) = some x → G) : G := by
 unfold loopF at h
 cases h1 : bindS tg d S with
 | none => rw [h1] at h; exact optE h
 | some S₂ =>
 cases h2 : f S₂ with
 | none => rw [h1] at h; replace h : (match f S₂ with | some (.next, S₂) => loopF f tg r S₂ | some (.ret v, S₂) => some (.ret v, S₂) | none => none) = some x := h; rw [h2] at h; exact optE h
 | some p =>
 rw [h1] at h
 replace h : (match f S₂ with | some (.next, S₂) => loopF f tg r S₂ | some (.ret v, S₂) => some (.ret v, S₂) | none => none) = some x := h
 rw [h2] at h
 obtain ⟨fl1, S3⟩ := p
 exact k S₂ fl1 S3 h1 h2 (by cases fl1 <;> exact h)
omit am in
@[elab_as_elim] theorem bindSE {m : Tg → D → Sta → Prop} {tg : Tg} {d : D} {S S₂ : Sta} (h : bindS tg d S = some S₂) (k1 : ∀ i p d, m (.one i p) d (S.put i (.fr d))) (k2 : ∀ i p j q kk r a b, m (.two i p j q kk r) (.tup [a, b]) ((S.put i (.fr a)).put j (.fr b))) : m tg d S₂ := by
 cases tg with
 | one i p => exact someE h (k1 i p d)
 | two i p j q kk r =>
  cases d with
  | tup ds =>
   cases ds with
   | nil => exact optE h
   | cons a ds =>
   cases ds with
   | nil => exact optE h
   | cons b ds =>
   cases ds with
   | nil => exact someE h (k2 _ _ _ _ _ _ _ _)
   | cons _ _ => exact optE h
  | _ => exact optE h
theorem tg_ok {tg : Tg} {d : D} {v : Value} {S₂ : Sta} (go : Go A fr base h₀ N env B tp s.heap ad) (x : SI prog w nm env sc B s.heap S σ ad) (hb : bindS tg d S = some S₂) (put : ∀ i ∈ tgVars tg, putK nm sc i = true) (hv : TgVal prog w s.heap (Wf B ad) v d tg) {Q : Unit → Shared → Prop} {E : Value → Shared → Prop}
  (c : ∀ σ' ad' h' tk, s.toks ≤ tk → SI prog w nm env sc B h' S₂ σ' ad' → Mv tp fr env s.heap ad h' ad' → Q () (up s h' tk)) : wpAny (model prog w) (A.deeper env) (assign (tg.py nm) env v) Q E s := by
 revert put hv c
 refine bindSE hb (fun i p d put hv c => ?_) (fun i p j q kk r a b put hv c => ?_)
 ·exact wpAny_assign_Name (store_fr (tp := tp) go.gn x am.inj (put i List.mem_cons_self) hv fun σ' h' tk hn y m _ => c _ _ h' tk hn y m)
 ·obtain ⟨T, u1, u2, d1, d2, rfl, e, hT, ra, rb⟩ := hv
  cases e
  refine (tuple_ok (A' := A.deeper env) (tp := tp) (kk := kk) (pt := r) (ts := [(i, p), (j, q)]) (us := [u1, u2]) (ds := [a, b]) go.gn.cx.hd go.gn am.inj hT rfl (.cons ra (.cons rb .nil)) (fun t ht => ?_) x rfl).wp fun _ h' tk hn q => ?_
  ·exact mem2 (P := fun t : Nat × Pos => putOk sc (nm t.1) = true) ht (put i List.mem_cons_self) (put j (List.mem_cons_of_mem _ List.mem_cons_self))
  ·obtain ⟨σ', ad', y, m⟩ := q
   exact c σ' ad' h' tk hn y m
omit am
structure Ft (B : Addr → Prop) (fp wr : List Addr) (ad : Nat → List Addr) (h2 : Heap) (h : Heap) (ad₁ : Nat → List Addr) : Prop where
 fpo : ∀ b ∈ fp, ∀ j, b ∉ ad₁ j
 old : ∀ b o, ¬ Wf B ad b → b ∉ wr → h2.get? b = some o → h.get? b = some o
 new : ∀ j a, a ∈ ad₁ j → (∃ l, a ∈ ad l) ∨ h2.get? a = none
theorem Ft.move {fp wr : List Addr} {ad₁ ad' : Nat → List Addr} {h2 h h' : Heap} (gn : Gn A fr base h₀ N env B) (f : Ft B fp wr ad h2 h ad₁) (m : Mv tp fr env h ad₁ h' ad') (alive : ∀ b ∈ fp, ∃ o, h.get? b = some o) (nb : ∀ j a, a ∈ ad' j → ¬ (B a ∨ a ∈ wr)) : Ft B fp wr ad h2 h' ad' := by
 refine ⟨fun b hb j q => (m.new j b q).elim (fun ⟨l, z⟩ => f.fpo b hb l z) fun z => ?_, fun b o hb hw e => m.kept b o (fun q => hb (.inl (atB gn q))) (fun q => hb (.inl (gn.frB b q.2))) (fun j q => (f.new j b q).elim (fun ⟨l, z⟩ => hb (.inr ⟨l, z⟩)) fun z => ?_) (f.old b o hb hw e),
  fun j a q => (m.new j a q).elim (fun ⟨l, z⟩ => f.new l a z) fun z => ?_⟩
 ·obtain ⟨o, e⟩ := alive b hb; rw [e] at z; cases z
 ·rw [e] at z; cases z
 ·by_cases ha : ∃ l, a ∈ ad l
  ·exact .inl ha
  ·refine .inr ?_
   cases q2 : h2.get? a with
   | none => rfl
   | some o => rw [f.old a o (fun z => z.elim (fun z => nb j a q (.inl z)) ha) (fun z => nb j a q (.inr z)) q2] at z; cases z
inductive FI (prog : Program) (w : World) (nm : Nat → Str) (env : Env) (sc : Scope) (B : Addr → Prop) (tp : Bool) (fr : List Env) (fp wr : List Addr) (ad : Nat → List Addr) (hs h2 : Heap) (At : Nat → Heap → Prop) (L : Nat → Sta → Prop) (i : Nat) (h : Heap) : Prop
 | mk (S₁ : Sta) (σ₁ : Str → Option Value) (ad₁ : Nat → List Addr) (at' : At i h) (lp : L i S₁) (x : SI prog w nm env sc (fun a => B a ∨ a ∈ wr) h S₁ σ₁ ad₁) (m : Mv tp fr env hs ad h ad₁) (f : Ft B fp wr ad h2 h ad₁) : FI prog w nm env sc B tp fr fp wr ad hs h2 At L i h
include am
theorem for_turn {n : Nat} (ih : SoundS prog w nm fn FT base N n) {tg : Tg} {body : Bl} {I : Addr} {fp wr : List Addr} {At : Nat → Heap → Prop} {ds : List D} {en : Bool} {hs h2 : Heap} {ad₁ : Nat → List Addr} {S₂ S3 : Sta} {fl1 : Fl} {d : D} {i : Nat} (go : Go A fr base h₀ N env B tp hs ad)
  (wk : Wk prog w (A.deeper env) I fp wr ds en h2 (Wf B ad) At) (hwr : ∀ b ∈ wr, hs.get? b = none) (wrF : ∀ b ∈ wr, ¬ Fm.all env b) (fpOff : ∀ b ∈ fp, ¬ Fm.at env (fun _ => True) b ∧ ¬ SS fr tp b) (two : tg.two? = en) (put : ∀ i ∈ tgVars tg, putK nm sc i = true)
  (hd : ds[i]? = some d) (hb : bindS tg d S = some S₂) (hbody : exB nm fn FT sc tp n body S₂ = some (fl1, S3)) (hat : At i s.heap) (x : SI prog w nm env sc (fun a => B a ∨ a ∈ wr) s.heap S σ ad₁) (m : Mv tp fr env hs ad s.heap ad₁) (f : Ft B fp wr ad h2 s.heap ad₁)
  {QN : Shared → Prop} {QF : Flow → Shared → Prop} {E : Value → Shared → Prop}
  (hQ : ∀ f σ₅ ad₅ h5 tk5, s.toks ≤ tk5 → At (i + 1) h5 → SI prog w nm env sc (fun a => B a ∨ a ∈ wr) h5 S3 σ₅ ad₅ → Mv tp fr env hs ad h5 ad₅ → Ft B fp wr ad h2 h5 ad₅ → FlOk prog w h5 (Wf (fun a => B a ∨ a ∈ wr) ad₅) fl1 f → QF f (up s h5 tk5)) :
  wpAny (model prog w) (A.deeper env) (pyNext (.ref I)) (fun r s₁ => match r with
   | none => QN s₁
   | some v => wpAny (model prog w) (A.deeper env) (letOwnedTupleGo (tg.py nm) (.ref I) v) (fun _ s₂ => wpAny (model prog w) (A.deeper env) (assign (tg.py nm) env v) (fun _ s₃ => wpAny (model prog w) (A.deeper env) (execs (body.py nm fn) env) (fun f s₄ => QF f s₄) E s₃) E s₂) E s₁) E s := by
 refine nextV_ok (nm := nm) (W := Wf (fun a => B a ∨ a ∈ wr) ad₁) (tg := tg) wk hat hd two (fun a q => .inl (.inr q)) (fun a q => ?_) f.old (fun v s₁ q => q) fun v h3 tk3 hn3 hat3 k3 hval => ?_
 ·exact q.elim (fun q => q.elim (fun q => .inl (.inl q)) fun q => .inr (.inl q)) fun ⟨j, q⟩ => (f.new j a q).elim (fun z => .inl (.inr z)) fun z => .inr (.inr z)
 have alive : ∀ {k h}, At k h → ∀ b ∈ fp, ∃ o, h.get? b = some o := fun hat b hb => wk.1 _ _ hat b hb
 have x3 := x.off k3 (fun b hb => .inr hb) wrF fun b hb => alive hat3 b (wk.sub b hb)
 have m3 := m.off (M := fun a => a ∈ wr) hwr k3
 have f3 : Ft B fp wr ad h2 h3 ad₁ := ⟨f.fpo, fun b o h1 h2 e => k3 b o h2 (f.old b o h1 h2 e), f.new⟩
 refine tg_ok (s := up s h3 tk3) am (go.move m3).more x3 hb put hval fun σ₄ ad₄ h4 tk4 hn4 x4 m4 => ?_
 have at4 : At (i + 1) h4 := wk.frame hat3 fun b hb o e => m4.kept b o (fpOff b hb).1 (fpOff b hb).2 (fun j => f.fpo b hb j) e
 have f4 := f3.move go.gn m4 (alive hat3) x4.nb
 have m34 := m3.trans m4
 refine (ih.b A fr env sc tp _ h₀ body S₂ fl1 S3 hbody σ₄ ad₄ (up s h4 tk4) (go.move m34).more x4 (Nat.zero_le _)).wp fun f h5 tk5 hn5 q => ?_
 obtain ⟨σ₅, ad₅, x5, m5, fo⟩ := q
 exact hQ f σ₅ ad₅ h5 tk5 (Nat.le_trans hn3 (Nat.le_trans hn4 hn5)) (wk.frame at4 fun b hb o e => m5.kept b o (fpOff b hb).1 (fpOff b hb).2 (fun j => f4.fpo b hb j) e) x5 (m34.trans m5) (f4.move go.gn m5 (alive at4) x5.nb) fo
theorem ex_for {n : Nat} (ih : SoundS prog w nm fn FT base N n) {tg : Tg} {src : X} {body : Bl} {p : Pos} {fl : Fl} {S' : Sta} (he : exS nm fn FT sc tp (n + 1) (.for tg src body p) S = some (fl, S')) (go : Go A fr base h₀ N env B tp s.heap ad)
  (x : SI prog w nm env sc B s.heap S σ ad) (tk : 0 ≤ s.toks) : Ok (model prog w) (A.deeper env) (exec (.For (tg.py nm) (src.py nm fn) (body.py nm fn) [] p) env) s (ExP prog w nm tp fr env sc B s.heap ad fl S') := by
 refine J.for' he fun ds en hsrc two put hlp => ?_
 cases n with
 | zero => exact optE hsrc
 | succ n =>
 refine wpAny_For ((sound_src am (sound am n n (Nat.le_refl _)) _ _ _ _ _ _ _ hsrc _ _ _ _ _ (x.st go.gn go.keep tk)).wp fun xv h1 tk1 hn1 q => ?_) (fun x => folded_py src x)
 refine (q tk1 hn1).wp2 fun it h2 tk2 hn2 k2 q => ?_
 obtain ⟨I, fp, wr, At, rfl, hwr, hfp, hat, wk⟩ := q
 have hMB : ∀ a, a ∈ wr → ¬ B a := fun a q z => by obtain ⟨o, e⟩ := x.al a z; rw [hwr a q] at e; cases e
 have wrF : ∀ b ∈ wr, ¬ Fm.all env b := fun b hb z => hMB b hb (go.gn.fmB b z)
 have wrA : ∀ b ∈ wr, ∀ i, b ∉ ad i := fun b hb i z => by
  cases hs : S i with
  | none => rw [x.no i hs] at z; cases z
  | some sl => obtain ⟨_, _, _, c⟩ := x.sl i sl hs; obtain ⟨o, e⟩ := c.alive b z; rw [hwr b hb] at e; cases e
 have fpOff : ∀ b ∈ fp, ¬ Fm.at env (fun _ => True) b ∧ ¬ SS fr tp b := fun b hb => (hfp b hb).elim (fun q => ⟨fun z => hMB b q (atB go.gn z), fun z => hMB b q (go.gn.frB b z.2)⟩) fun q => ⟨fun z => q (.inl (atB go.gn z)), fun z => q (.inl (go.gn.frB b z.2))⟩
 refine codeAny_mono (codeAny_forLoop_any (R := fun r s' => ∃ f, r = .ok f ∧ OkP s (ExP prog w nm tp fr env sc B s.heap ad fl S') f s')
  (LInv (up s h2 tk2) ds.length (FI prog w nm env sc B tp fr fp wr ad s.heap h2 At fun i S₁ => loopF (exB nm fn FT sc tp (n + 1) body) tg (ds.drop i) S₁ = some (fl, S'))) ?_ (ds.length + 1)
  (.mk 0 h2 tk2 (Nat.le_refl _) (Nat.zero_le _) ⟨S, σ, ad, hat, hlp, x.lift (M := fun a => a ∈ wr) go.gn k2 fun a q => ⟨hwr a q, wk.1 _ _ hat a (wk.sub a q)⟩, Mv.eval go.gn k2, fun b hb j q => (hfp b hb).elim (fun z => wrA b z j q) fun z => z (.inr ⟨j, q⟩), fun _ _ _ _ e => e, fun j a q => .inl ⟨j, q⟩⟩)) fun r s' q => ?_
 rotate_left
 ·obtain ⟨f, rfl, q⟩ := q; exact q
 rintro k s' ⟨i, h, tk', htk', hi, S₁, σ₁, ad₁, hat₁, hlp, x₁, m₁, f₁⟩
 by_cases hlt : i < ds.length
 ·obtain ⟨d, hd⟩ : ∃ d, ds[i]? = some d := ⟨_, List.getElem?_eq_getElem hlt⟩
  have hdrop : ds.drop i = d :: ds.drop (i + 1) := by
   rw [List.drop_eq_getElem_cons hlt]
   rw [List.getElem?_eq_getElem hlt] at hd; cases hd; rfl
  rw [hdrop] at hlp
  refine loopE hlp fun S₂ fl1 S3 hb hbody hend => for_turn (s := up s h tk') am ih go wk hwr wrF fpOff two put hd hb hbody hat₁ x₁ m₁ f₁ fun f σ₅ ad₅ h5 tk5 hn5 at5 x5 m5 f5 fo => ?_
  cases fo with
  | next => exact ⟨ds.length + 1 - (i + 1), down1 hlt, .mk (i + 1) h5 tk5 (Nat.le_trans htk' hn5) hlt ⟨S3, σ₅, ad₅, at5, hend, x5, m5, f5⟩⟩
  | ret r =>
   refine J.end' hend ?_
   exact ⟨_, rfl, fin ⟨σ₅, ad₅, x5.weak (M := fun a => a ∈ wr) go.gn (fun _ _ _ e => e) hMB, m5, .ret (r.mono (fun _ _ _ e => e) fun a q => .inl (q.imp .inl id))⟩⟩
 ·have hin : i = ds.length := Nat.le_antisymm hi (Nat.not_lt.mp hlt)
  rw [hin] at hat₁ hlp
  rw [List.drop_length] at hlp
  refine done_ok (s := up s h tk') wk hat₁ fun h' tk'' hn' hk' => wpAny_execs_nil ?_
  refine J.end' hlp ?_
  exact ⟨.next, rfl, fin ⟨σ₁, ad₁, x₁.weak (M := fun a => a ∈ wr) go.gn hk' hMB, m₁.off (M := fun a => a ∈ wr) hwr hk', .next⟩⟩
end
end
section
section
variable {prog : Program} {w : World} {nm fn : Nat → Str} {FT : List FE} {base : Heap} {N : Nat} {A : Around} {fr : List Env} {env : Env} {sc : Scope} {B : Addr → Prop} {h₀ : Heap} {S : Sta} {σ : Str → Option Value} {ad : Nat → List Addr} {s : Shared} {tp : Bool}
theorem fill_iadd : fillsInplaceSlot (.type "list") "add" (Operator.Add == .Add) = pure false := by
 unfold fillsInplaceSlot
 show (typeLookup (.type "list") (dunderI "add") >>= fun fi => pure (fi.isSome && !isSeqSlot fi)) = pure false
 rw [F.slot_list_iadd.lookup]; rfl
theorem seq_iadd : seqSlot? (.type "list") (dunderI "add") = pure (some (.builtin "list.__iadd__")) := PySem.seqSlot_of F.slot_list_iadd.lookup (by decide +kernel)
theorem notLong {n m : Nat} (h : n ≤ listLine ∧ m ≤ listLine) : Builtin.List.listTooLong (n + m) = false := by
 unfold Builtin.List.listTooLong
 unfold listLine at h
 rw [sizeLine_eq]
 exact decide_eq_false (by omega)
theorem iadd_lists {E : Value → Shared → Prop} {l b : Addr} {us vs : List Value} {m m2 : Nat} {Q : Value → Shared → Prop} (hl : s.heap.get? l = some (sq "list" us m)) (hb : s.heap.get? b = some (sq "list" vs m2)) (hz : us.length ≤ listLine ∧ vs.length ≤ listLine)
  (h : ∀ h' m', h'.get? l = some (sq "list" (us ++ vs) m') → Heap.SameBut l s.heap h' → Q (.ref l) { s with heap := h' }) : wpAny (model prog w) A (inplaceOp .Add (.ref l) (.ref b)) Q E s := by
 unfold inplaceOp
 refine wpAny_holding ?_
 have ha : s.TypeIs (.ref l) "list" := ⟨_, hl, rfl⟩
 have hb' : s.TypeIs (.ref b) "list" := ⟨_, hb, rfl⟩
 refine wpAny_bind (wpAny_typeOf ha (wpAny_bind (wpAny_of_eq fill_iadd ?_)))
 show wpAny _ A (if false = true then _ else _) Q E s
 rw [if_neg Bool.false_ne_true]
 refine wpAny_bind (PySem.wpAny_binaryOp1_none (nm := "add") ha hb' noFill_list_add ?_)
 refine wpAny_bind (wpAny_of_eq seq_iadd ?_)
 refine wpAny_bind (wpAny_rule ?_)
 have hsz1 : us.toArray.size ≤ sizeLine := by rw [List.size_toArray, sizeLine_eq]; exact Nat.le_trans hz.1 (by decide)
 have hsz2 : us.toArray.size + vs.toArray.size ≤ sizeLine + 1 := by rw [List.size_toArray, List.size_toArray, sizeLine_eq]; exact Nat.le_trans (Nat.add_le_add hz.1 hz.2) (by decide)
 refine call_meets F.slot_list_iadd ha F.entry_list_iadd (F.args_list_iadd_2 _ _) (AutoSeq1.list___iadd___list_list_0 l us.toArray m b vs.toArray m2 (by rw [List.size_toArray, List.size_toArray, notLong hz]; simp) hsz1 hsz2) ⟨hl, hb, ?_⟩
 obtain ⟨m', hm⟩ := Obj.data_mapSeq (o := sq "list" us m) rfl (fun x => x ++ vs.toArray)
 have e2 : us.toArray ++ vs.toArray = (us ++ vs).toArray := by simp
 rw [e2] at hm
 have e3 : Obj.mapSeq (fun x => x ++ vs.toArray) (sq "list" us m) = sq "list" (us ++ vs) m' := by
  have : Obj.mapSeq (fun x => x ++ vs.toArray) (sq "list" us m) = { sq "list" us m with data := (Obj.mapSeq (fun x => x ++ vs.toArray) (sq "list" us m)).data } := by unfold Obj.mapSeq; rfl
  rw [this, hm]
 exact h _ m' (by rw [Heap.get?_update_self _ hl (by rw [e3]; rfl), e3]) (Heap.SameBut.update ..)
variable (am : Am prog w nm fn FT base N)
include am
theorem ex_ext {n : Nat} {i : Nat} {pi : Pos} {e : X} {p : Pos} {fl : Fl} {S' : Sta} (he : exS nm fn FT sc tp (n + 1) (.ext i pi e p) S = some (fl, S')) (go : Go A fr base h₀ N env B tp s.heap ad)
  (x : SI prog w nm env sc B s.heap S σ ad) (tk : 0 ≤ s.toks) : Ok (model prog w) (A.deeper env) (exec (.AugAssign (.Name (nm i) pi) .Add (e.py nm fn) p) env) s (ExP prog w nm tp fr env sc B s.heap ad fl S') := by
 refine J.ext he fun ds es te hi hev hp hes hz => x.liE hi fun a us0 m0 hu hadi _ _ _ => ?_
 refine wpAny_AugAssign_Name (SI.name am go.gn.g x hi hu fun tk1 hn1 => Go.k (s := up s s.heap tk1) am go x hev fun v2 h2 tk2 hn2 k2 r2 x2 _ => R.lstE r2 fun b vs m2 hw hb rb => x2.liE hi fun a' us m hu' _ hl rl hat => ?_)
 cases (Option.some.inj (hu.symm.trans hu') : Value.ref a = .ref a')
 refine iadd_lists (s := up s h2 tk2) hl hb ⟨by rw [rl.length]; exact hz.1, by rw [rb.length]; exact hz.2⟩ fun h3 m' hl3 hsb => ?_
 have hat' : (ds ++ es).all D.atom = true := by rw [List.all_append, hat, hes]; rfl
 have rl3 : RL prog w h3 (fun _ => False) (us ++ vs) (ds ++ es) := (rl.atoms hat).append (rb.atoms hes)
 have ym := own_change (tp := tp) (s := up s h2 tk2) (h' := h3) (sl' := .li (ds ++ es)) x2 hi hu go.gn (fun b o hb e => (hsb.2 b fun q => hb (by rw [hadi]; exact List.mem_singleton.mpr q)).trans e) (by rw [hadi]; exact .li hl3 rl3 hat')
 have hadE : adPut ad i [a] = ad := by
  funext k; unfold adPut
  split
  ·rename_i e; rw [e, hadi]
  ·rfl
 refine (store_slot (s := up s h3 tk2) (A' := A.deeper env) go.gn ym.1 am.inj hp (sl := .li (ds ++ es)) (as := [a]) (.li hl3 rl3 hat') (fun b hb => mem1 (P := fun b => ¬ B b) hb (x.nb i a (by rw [hadi]; exact List.mem_singleton.mpr rfl))) (fun k hk b hb q => hk (x.dj k i b q (by rw [hadi]; exact hb))) (by simp) (fun k z v' _ _ _ c => by rw [hadE]; exact c)).wp2 fun _ h4 tk4 hn4 z k4 => ?_
 have m4 := (Mv.refl (tp := tp) (fr := fr) (env := env) (h := h3) (ad := ad)).store (i := i) (as := [a]) k4.1 k4.2 fun b hb => .inl ⟨i, by rw [hadi]; exact hb⟩
 rw [hadE] at z m4
 rw [show (S.put i (.li (ds ++ es))).put i (.li (ds ++ es)) = S.put i (.li (ds ++ es)) by funext k; unfold Sta.put; split <;> rfl] at z
 exact fin ⟨_, _, z, ((Mv.eval go.gn k2).trans ym.2).trans m4, .next⟩
end
end
section
section
variable {prog : Program} {w : World} {nm fn : Nat → Str} {FT : List FE} {base : Heap} {N : Nat} {A : Around} {fr : List Env} {env : Env} {sc : Scope} {B : Addr → Prop} {h₀ : Heap} {S : Sta} {σ : Str → Option Value} {ad : Nat → List Addr} {s : Shared} {tp : Bool}
theorem put_same {i : Nat} {sl : Slot} (h : S i = some sl) : S.put i sl = S := by
 funext k; unfold Sta.put; split
 ·rename_i e; rw [e, h]
 ·rfl
variable (am : Am prog w nm fn FT base N)
include am
theorem ex_repIf {n : Nat} {i : Nat} {y z : Str} {k0 k1 k2 : Nat} {q1 q2 q3 q4 q5 q6 q7 q8 q9 q10 q11 : Pos} {fl : Fl} {S' : Sta} (he : exS nm fn FT sc tp (n + 1) (.repIf i y k0 q1 q2 q3 q4 q5 q6 k1 q7 z k2 q8 q9 q10 q11) S = some (fl, S')) (go : Go A fr base h₀ N env B tp s.heap ad)
  (x : SI prog w nm env sc B s.heap S σ ad) (tk : 0 ≤ s.toks) :
  Ok (model prog w) (A.deeper env) (exec (.If (.Compare (.Constant (.str y) k0 q1) [.In] [.Name (nm i) q2] q3) [.Assign [.Name (nm i) q4] (.Call (.Attribute (.Name (nm i) q5) "replace" q6) [.Constant (.str y) k1 q7, .Constant (.str z) k2 q8] [] q9) q10] [] q11) env) s (ExP prog w nm tp fr env sc B s.heap ad fl S') := by
 refine J.repIf he fun t hi hp hpos hlen hz hyz => x.frE hi fun u hu ru => wpAny_If (wpAny_isTrue_Compare1 (wpAny_Constant_str ?_) rfl)
 have hlen : t.length ≤ 100000 := hlen
 refine SI.nameE (s := { s with toks := s.toks + 1 }) am go.gn.g x hi hu fun tk1 hn1 => ?_
 have hu8 : (A.deeper env).units + 8 < cLine := by have := (x.st go.gn go.keep tk).cx.un; omega
 refine (cmp_ok (op := .isIn) (s := { s with toks := tk1 }) (W := fun _ => False) (show cmpD .isIn (.str y) (.str t) = some (Txt.contains t y) from rfl) (R.str (W := fun _ => False) y s.toks) ru hu8).wp2 fun v2 h2 tk2 hn2 kk2 rv2 => R.boolE rv2 (wpAny_truthy_bool ?_)
 have t2 : 1 ≤ tk2 := Nat.le_trans (Nat.le_trans (Nat.le_add_left 1 _) hn1) hn2
 have mv2 := Mv.eval (ad := ad) (tp := tp) go.gn (Kp.of kk2)
 have x2 : SI prog w nm env sc B h2 S σ ad := x.step (tp := tp) go.gn (Kp.of kk2)
 cases hc : Txt.contains t y with
 | false =>
  rw [if_neg Bool.false_ne_true, if_neg Bool.false_ne_true, put_same hi]
  exact wpAny_execs_nil (fin ⟨σ, ad, x2, mv2, .next⟩)
 | true =>
  rw [if_pos rfl, if_pos rfl]
  refine wpAny_execs_cons (wpAny_Assign_Name (wpAny_Call_method_lateS rfl rfl hpos (SI.nameE (s := up s h2 tk2) am go.gn.g x2 hi hu fun tk3 hn3 => x2.frE hi fun u' hu' ru' => ?_)))
  rw [← Option.some.inj (hu'.symm.trans hu)]
  refine R.strE ru' fun t3 => ⟨"str", "str.replace", F.plainAttrs_str, F.slot_str_replace, F.type_str_replace, typeIs_str _ _ _, (fun a q => nomatch q), ?_⟩
  refine callWith_builtin rfl (evalArgs_plain (spliced_cons (wpAny_Constant_str (k := k1) (pos := q7) (spliced_cons (wpAny_Constant_str (k := k2) (pos := q8) (spliced_nil ?_))))))
  have htk : 1 ≤ tk3 := Nat.le_trans t2 hn3
  refine SC.replaceW (by show tk3 ≠ 0; omega) (Nat.succ_ne_zero _) (Nat.ne_of_lt (Nat.lt_succ_self _)) hyz (by omega) hz fun t' k => ?_
  exact store_fr (tp := tp) (s := up s h2 k) go.gn x2 am.inj hp (.str _ _) fun σ' h4 tk4 hn4 z m _ => wpAny_execs_nil (fin ⟨_, _, z, mv2.trans m, .next⟩)
end
end
section
section
variable {prog : Program} {w : World} {nm fn : Nat → Str} {FT : List FE} {base : Heap} {N : Nat} {A : Around} {fr : List Env} {env : Env} {sc : Scope} {B : Addr → Prop} {h₀ : Heap} {S : Sta} {σ : Str → Option Value} {ad : Nat → List Addr} {s : Shared} {tp : Bool}
variable (am : Am prog w nm fn FT base N)
include am
omit am in
theorem whlE {G : Prop} {n : Nat} {t : X} {body : Bl} {x : Fl × Sta} (h : exW nm fn FT sc tp (n + 1) t body S = some x) (k0 : evT nm fn FT n sc t tp (rhoOf S) = some false → some (.next, S) = some x → G)
  (k1 : ∀ fl1 S2, evT nm fn FT n sc t tp (rhoOf S) = some true → exB nm fn FT sc tp n body S = some (fl1, S2) → (match fl1 with
   | .next => exW nm fn FT sc tp n t body S2
   | .ret d => some (.ret d, S2)) = some x → G) : G := by
 refine I.bT ((Q.wstep t body).symm.trans h) (fun ht h => ?_) fun ht h => k0 ht h
 cases hb : exB nm fn FT sc tp n body S with
 | none => rw [hb] at h; exact optE h
 | some p =>
  rw [hb] at h
  obtain ⟨fl1, S2⟩ := p
  exact k1 fl1 S2 ht hb (by cases fl1 <;> exact h)
omit am in
theorem blE {G : Prop} {n : Nat} {a : Sm} {r : Bl} {x : Fl × Sta} (h : exB nm fn FT sc tp (n + 1) (.cons a r) S = some x) (k : ∀ fl1 S1, exS nm fn FT sc tp n a S = some (fl1, S1) → (match fl1 with
   | .next => exB nm fn FT sc tp n r S1
   | fl1 => some (fl1, S1)) = some x → G) : G := by
 replace h := (Q.bcons a r).symm.trans h
 cases ha : exS nm fn FT sc tp n a S with
 | none => rw [ha] at h; exact optE h
 | some p =>
  rw [ha] at h
  obtain ⟨fl1, S1⟩ := p
  exact k fl1 S1 ha (by cases fl1 <;> exact h)
inductive WI (prog : Program) (w : World) (nm : Nat → Str) (tp : Bool) (fr : List Env) (env : Env) (sc : Scope) (B : Addr → Prop) (n : Nat) (s : Shared) (ad : Nat → List Addr) (L : Nat → Sta → Prop) : Nat → Shared → Prop
 | mk (k : Nat) (S₁ : Sta) (σ₁ : Str → Option Value) (ad₁ : Nat → List Addr) (h : Heap) (tk : Nat) (hk : k ≤ n) (htk : s.toks ≤ tk) (lp : L k S₁) (x : SI prog w nm env sc B h S₁ σ₁ ad₁) (m : Mv tp fr env s.heap ad h ad₁) : WI prog w nm tp fr env sc B n s ad L k (up s h tk)
theorem while_ok {n : Nat} (ih : ∀ m, m < n → SoundS prog w nm fn FT base N m) {t : X} {body : Bl} {fl : Fl} {S' : Sta} (he : exW nm fn FT sc tp n t body S = some (fl, S')) (go : Go A fr base h₀ N env B tp s.heap ad)
  (x : SI prog w nm env sc B s.heap S σ ad) (tk : 0 ≤ s.toks) :
  codeAny (model prog w) (A.deeper env) (.whileLoop (t.py nm fn) (body.py nm fn) [] env) (fun r s' => ∃ f, r = .ok f ∧ ∃ h' tk, s' = (up s h' tk) ∧ s.toks ≤ tk ∧ ExP prog w nm tp fr env sc B s.heap ad fl S' f h') s := by
 refine codeAny_whileLoop (WI prog w nm tp fr env sc B n s ad fun k S₁ => exW nm fn FT sc tp k t body S₁ = some (fl, S')) ?_ n (.mk n S σ ad s.heap s.toks (Nat.le_refl _) (Nat.le_refl _) he x Mv.refl)
 rintro k s' ⟨S₁, σ₁, ad₁, h, tk', hk, htk', he₁, x₁, m₁⟩
 cases k with
 | zero => exact optE he₁
 | succ k =>
 have go₁ := go.move m₁
 refine whlE he₁ (fun ht h0 => Go.kT (s := up s h tk') am go₁ x₁ ht fun h1 tk1 hn1 x2 go2 m2 => ?_) fun fl1 S2 ht hb hend => Go.kT (s := up s h tk') am go₁ x₁ ht fun h1 tk1 hn1 x2 go2 m2 => ?_
 ·rw [if_neg Bool.false_ne_true]
  refine wpAny_execs_nil ?_
  refine J.end' h0 ?_
  exact ⟨_, rfl, _, _, rfl, Nat.le_trans htk' hn1, σ₁, ad₁, x2, m₁.trans m2, .next⟩
 ·rw [if_pos rfl]
  refine ((ih k (Nat.lt_of_succ_le hk)).b A fr env sc tp B h₀ body S₁ fl1 S2 hb σ₁ ad₁ (up s h1 tk1) go2 x2 (Nat.zero_le _)).wp fun f h2 tk2 hn2 q => ?_
  obtain ⟨σ2, ad2, y, m, fo⟩ := q
  have mm := (m₁.trans m2).trans m
  have tt := Nat.le_trans htk' (Nat.le_trans hn1 hn2)
  cases fo with
  | next => exact ⟨k, Nat.lt_succ_self _, .mk k S2 σ2 ad2 h2 tk2 (Nat.le_of_succ_le hk) tt hend y mm⟩
  | ret r =>
   refine J.end' hend ?_
   exact ⟨_, rfl, _, _, rfl, tt, σ2, ad2, y, mm, .ret r⟩
theorem ex_ite {n : Nat} (ih : SoundS prog w nm fn FT base N n) {t : X} {a b : Bl} {p : Pos} {fl : Fl} {S' : Sta} (he : exS nm fn FT sc tp (n + 1) (.ite t a b p) S = some (fl, S')) (go : Go A fr base h₀ N env B tp s.heap ad)
  (x : SI prog w nm env sc B s.heap S σ ad) : Ok (model prog w) (A.deeper env) (exec (.If (t.py nm fn) (a.py nm fn) (b.py nm fn) p) env) s (ExP prog w nm tp fr env sc B s.heap ad fl S') := by
 have run : ∀ bl : Bl, exB nm fn FT sc tp n bl S = some (fl, S') → ∀ h1 tk1, s.toks ≤ tk1 → SI prog w nm env sc B h1 S σ ad → Go A fr base h₀ N env B tp h1 ad → Mv tp fr env s.heap ad h1 ad →
   wpAny (model prog w) (A.deeper env) (execs (bl.py nm fn) env) (OkP s (ExP prog w nm tp fr env sc B s.heap ad fl S')) (fun _ _ => False) (up s h1 tk1) := fun bl he h1 tk1 hn1 x1 go1 m1 =>
  (ih.b A fr env sc tp B h₀ bl S fl S' he σ ad (up s h1 tk1) go1 x1 (Nat.zero_le _)).wp fun f h2 tk2 hn2 q => by
   obtain ⟨σ', ad', y, m, fo⟩ := q
   exact fin ⟨σ', ad', y, m1.trans m, fo⟩
 refine J.ite he (fun ht he => wpAny_If (Go.kT am go x ht fun h1 tk1 hn1 x1 go1 m1 => ?_)) fun ht he => wpAny_If (Go.kT am go x ht fun h1 tk1 hn1 x1 go1 m1 => ?_)
 ·rw [if_pos rfl]; exact run a he h1 tk1 hn1 x1 go1 m1
 ·rw [if_neg Bool.false_ne_true]; exact run b he h1 tk1 hn1 x1 go1 m1
theorem soundS : ∀ n, SoundS prog w nm fn FT base N n := by
 intro n
 induction n using Nat.strongRecOn with
 | ind n ihs =>
 cases n with
 | zero => exact ⟨fun _ _ _ _ _ _ _ _ _ _ _ h => optE h, fun _ _ _ _ _ _ _ _ _ _ _ h => optE h, fun _ _ _ _ _ _ _ _ _ _ _ _ h => optE h⟩
 | succ n =>
 have ih := ihs n (Nat.lt_succ_self _)
 refine ⟨fun A fr env sc tp B h₀ st S fl S' he σ ad s go x tk rest P k => ?_, fun A fr env sc tp B h₀ st S fl S' he σ ad s go x tk => ?_, fun A fr env sc tp B h₀ t body S fl S' he σ ad s go x tk => ?_⟩
 ·cases st with
  | asg i pi e p => exact one_then (ex_asg am he go x tk) k
  | own i pi e p => exact one_then (ex_own am he go x tk) k
  | unp ts kk pt e p => exact one_then (ex_unp am he go x tk) k
  | aug i pi op e p => exact one_then (ex_aug am he go x tk) k
  | ext i pi e p => exact one_then (ex_ext am he go x tk) k
  | augI i pi kx ps op e p => exact one_then (ex_augI am he go x tk) k
  | setI i pi kx ps e p => exact one_then (ex_setI am he go x tk) k
  | app i pi pa e pc p => exact one_then (ex_app am he go x tk) k
  | ite t a b p => exact one_then (ex_ite am ih he go x) k
  | «for» tg src body p => exact one_then (ex_for am ih he go x tk) k
  | whl t body p =>
   refine one_then (wpAny_While (codeAny_mono (ih.w A fr env sc tp B h₀ t body S fl S' he σ ad s go x tk) fun r s' q => ?_)) k
   obtain ⟨f, rfl, h', tk', rfl, hn, q⟩ := q
   exact ⟨_, _, rfl, q⟩
  | ret e p => exact one_then (ex_ret am he go x tk) k
  | tri body h hs p =>
   refine one_then (wpAny_Try_except ((ih.b A fr env sc tp B h₀ body S fl S' he σ ad s go x tk).wp fun f h1 tk1 hn1 q => ?_)) k
   cases f with
   | next => exact wpAny_execs_nil ⟨_, _, rfl, q⟩
   | brk => exact ⟨_, _, rfl, q⟩
   | cont => exact ⟨_, _, rfl, q⟩
   | ret v => exact ⟨_, _, rfl, q⟩
  | frz i =>
   revert k
   refine J.frz he fun sl hi k => ?_
   have ym := freeze (tp := tp) (fr := fr) x hi
   exact k .next s.heap s.toks (Nat.le_refl _) ⟨σ, _, ym.1, ym.2, .next⟩
  | repIf i y k0 q1 q2 q3 q4 q5 q6 k1 q7 z k2 q8 q9 q10 q11 => exact one_then (ex_repIf am he go x tk) k
  | raw st => exact optE he
 ·cases st with
  | nil => exact J.end' he (wpAny_execs_nil (fin ⟨σ, ad, x, Mv.refl, .next⟩))
  | cons a r =>
   refine blE he fun fl1 S1 ha hend => ih.s A fr env sc tp B h₀ a S fl1 S1 ha σ ad s go x tk _ _ fun f h1 tk1 hn1 q => ?_
   obtain ⟨σ1, ad1, y, m, fo⟩ := q
   cases fo with
   | next =>
    refine (ih.b A fr env sc tp B h₀ r S1 fl S' hend σ1 ad1 (up s h1 tk1) (go.move m) y (Nat.le_trans tk hn1)).mono fun f h2 q => ?_
    obtain ⟨σ2, ad2, z, m2, fo⟩ := q
    exact ⟨σ2, ad2, z, m.trans m2, fo⟩
   | ret rr =>
    refine J.end' hend ?_
    exact ⟨σ1, ad1, y, m, .ret rr⟩
 ·exact while_ok am ihs he go x tk
end
end
section
noncomputable def staOf : List Nat → List D → Sta
 | p :: ps, d :: ds => (staOf ps ds).put p (.fr d)
 | _, _ => fun _ => none
theorem staOf_get : ∀ {ps : List Nat} {ds : List D} {i : Nat} {x : Slot}, ps.Nodup → staOf ps ds i = some x → ∃ (j : Nat) (d : D), ps[j]? = some i ∧ ds[j]? = some d ∧ x = .fr d
 | [], _, _, _, _, h => by simp [staOf] at h
 | _ :: _, [], _, _, _, h => by simp [staOf] at h
 | p :: ps, d :: ds, i, x, hn, h => by
  rw [List.nodup_cons] at hn
  unfold staOf Sta.put at h
  split at h
  ·rename_i e; cases h; exact ⟨0, d, by simp [e], rfl, rfl⟩
  ·obtain ⟨j, d', a, b, c⟩ := staOf_get hn.2 h
   exact ⟨j + 1, d', by simpa using a, by simpa using b, c⟩
theorem bind_get (kindOf : Str → Option NameKind) : ∀ (binds : List (Str × Value)) (m cm : Str → Option Value), (binds.map (·.1)).Nodup → ∀ x,
  (∀ v, (x, v) ∈ binds → (kindOf x = some .local → bindL kindOf binds m x = some v) ∧ (kindOf x ≠ some .local → bindC kindOf binds cm x = some v)) ∧
  (x ∉ binds.map (·.1) → bindL kindOf binds m x = m x ∧ bindC kindOf binds cm x = cm x)
 | [], m, cm, _, x => ⟨fun v h => (by cases h), fun _ => ⟨rfl, rfl⟩⟩
 | (n, u) :: r, m, cm, hn, x => by
  rw [List.map_cons, List.nodup_cons] at hn
  have ih := bind_get kindOf r (if kindOf n = some .local then fun y => if y = n then some u else m y else m) (if kindOf n = some .local then cm else fun y => if y = n then some u else cm y) hn.2 x
  refine ⟨fun v h => ?_, fun h => ?_⟩
  ·rcases List.mem_cons.mp h with e | h
   ·cases e
    have := ih.2 hn.1
    unfold bindL bindC
    refine ⟨fun hk => ?_, fun hk => ?_⟩
    ·rw [this.1, if_pos hk, if_pos rfl]
    ·rw [this.2, if_neg hk, if_pos rfl]
   ·exact ih.1 v h
  ·rw [List.map_cons, List.mem_cons, not_or] at h
   have := ih.2 h.2
   unfold bindL bindC
   refine ⟨this.1.trans ?_, this.2.trans ?_⟩
   ·split
    ·exact if_neg h.1
    ·rfl
   ·split
    ·rfl
    ·exact if_neg h.1
section
variable {prog : Program} {w : World} {nm fn : Nat → Str} {FT : List FE} {base : Heap} {N : Nat}
structure Fun (prog : Program) (w : World) (nm fn : Nat → Str) (name : Str) (params : Arguments) (body : List Stmt) (sc : Scope) (b : Bl) (ps : List Nat) (pd : List D → Option (List D)) : Prop where
 bodyEq : b.py nm fn = body
 nodup : ps.Nodup
 pnames : (ps.map nm).Nodup
 kind : sc.kind = .function
 names : (sc.names.map (·.1)).Nodup
 free : ∀ x ∈ sc.names, x.2 ≠ .free
 put : ∀ i ∈ ps, putOk sc (nm i) = true
 co : sc.isCoroutine = false
 gen : sc.isGenerator = false
 bind : ∀ (pm code doc : Value) (A : Around) (s : Shared) (W : Addr → Prop) (us : List Value) (ds ds' : List D), A.handled = none → pd ds = some ds' → RL prog w s.heap W us ds → (∀ a, W a → ∃ o, s.heap.get? a = some o) →
  Ok (model prog w) A (bindArgs (docDef name params body sc pm code doc) ⟨us, []⟩) s (fun binds h' => (∀ b o, s.heap.get? b = some o → h'.get? b = some o) ∧ ∃ us', binds = (ps.map nm).zip us' ∧ us'.length = ps.length ∧ RL prog w h' W us' ds')
theorem con_gen {name : Str} {params : Arguments} {body : List Stmt} {sc : Scope} {b : Bl} {ps : List Nat} {pd : List D → Option (List D)} {pm code doc : Value} {fa : Addr} {o : Obj} {fe : FE}
  (F : Fun prog w nm fn name params body sc b ps pd) (ho : base.get? fa = some o) (hod : o.data = .func (docDef name params body sc pm code doc)) (hcd : base.CodeRec code name) (hlim : base.NoLimit) (hN : fe.need = N + 1)
  (hrun : ∀ ds d, fe.g ds = some d → ∃ ds', pd ds = some ds' ∧ ds'.length = ps.length ∧ ∀ (A : Around) (fr : List Env) (env : Env) (B : Addr → Prop) (h₀ : Heap) (s : Shared) (σ : Str → Option Value),
   Go A fr base h₀ N env B (!fe.exact) s.heap (fun _ => []) → SI prog w nm env sc B s.heap (staOf ps ds') σ (fun _ => []) → 0 ≤ s.toks →
   Ok (model prog w) (A.deeper env) (execs body env) s (fun f h' => ∃ S', ExP prog w nm (!fe.exact) fr env sc B s.heap (fun _ => []) (.ret d) S' f h')) : Con prog w base fe fa := by
 intro A fr s cx tk ds d hg W us hfrW hWal rl
 refine gg fun G₀ kk => ?_
 obtain ⟨ds', hpd, hlen, hex⟩ := hrun ds d hg
 refine kk ?_
 have hstay := cx.stay
 refine wpAny_call (codeAny_call_function (by have := cx.dep; show A.depth < recursionLimit; have e : recursionLimit = 1000 := rfl; omega) (hstay _ _ ho) hod F.co F.gen rfl (hcd.keeps hstay) ?_)
 refine (F.bind pm code doc A.in1 s W us ds ds' cx.hd hpd rl hWal).wp fun binds h1 tk1 hn1 q => ?_
 obtain ⟨k1, us', rfl, hus, rl1⟩ := q
 have hkind : ∀ x ∈ (ps.map nm).zip us', sc.names.lookup x.1 = some .local ∨ (sc.names.lookup x.1 = some .cell ∧ ((cellsFrom (h1.objs.size + 1) sc.names []).lookup x.1).isSome = true) := fun x hx => by
  have := List.of_mem_zip hx
  obtain ⟨i, hi, e⟩ := List.mem_map.mp this.1
  have hp := F.put i hi
  unfold putOk at hp
  rw [Bool.or_eq_true, beq_iff_eq, beq_iff_eq, e] at hp
  refine hp.imp id fun hp => ⟨hp, ?_⟩
  obtain ⟨c, hc⟩ := cellsFrom_has _ (h1.objs.size + 1) x.1 (mem_of_lookup hp)
  obtain ⟨u, hu⟩ := lookup_has hc
  rw [hu]; rfl
 refine wpAny_mono (wpAny_toks_of (n := tk1) (Nat.le_refl _) (wpAny_newFunctionEnv_cells (s := (up s h1 tk1)) F.kind hkind fun env he s' x => (show env = newEnv sc h1.objs.size mainGlobals (cellsFrom (h1.objs.size + 1) sc.names []) (name ++ ".<locals>.") (some fa) code none builtinsNs ∧ InCallC (up s h1 tk1) env.locals (bindL env.kindOf ((ps.map nm).zip us') fun _ => none) env.cells (bindC env.kindOf ((ps.map nm).zip us') fun _ => none) s' from ⟨he, x⟩))) (fun env s' q => ?_) fun _ _ q => q.2
 obtain ⟨hn2, he, x⟩ := q
 obtain ⟨h2, tk2, hs'⟩ := x.toInCall.same
 subst hs'
 have k2 := x.toInCall.keep
 dsimp only at k2
 refine ⟨hlim.keeps fun b o e => k2 b o (k1 b o (hstay b o e)), codeAny_func ?_⟩
 have hloc : env.locals = h1.objs.size := by rw [he]; rfl
 have hkd : ∀ y, env.kindOf y = sc.names.lookup y := fun y => by rw [he]; rfl
 have hcells : env.cells = cellsFrom (h1.objs.size + 1) sc.names [] := by rw [he]; rfl
 have hzn : (((ps.map nm).zip us').map (·.1)).Nodup := by
  have e : ((ps.map nm).zip us').map (·.1) = ps.map nm := by
   rw [← List.unzip_fst, List.unzip_zip (by rw [List.length_map, hus])]
  rw [e]; exact F.pnames
 have nofree : ∀ y, env.kindOf y ≠ some .free := fun y q => by
  rw [hkd] at q
  exact F.free _ (mem_of_lookup q) rfl
 have hcell : ∀ y, env.kindOf y = some .cell → ∃ c, env.cells.lookup y = some c := fun y q => by
  rw [hkd] at q
  obtain ⟨c, hc⟩ := cellsFrom_has _ (h1.objs.size + 1) y (mem_of_lookup q)
  rw [hcells]
  exact lookup_has hc
 have fm : Fm env h2 (fun y => if env.kindOf y = some .local then bindL env.kindOf ((ps.map nm).zip us') (fun _ => none) y else bindC env.kindOf ((ps.map nm).zip us') (fun _ => none) y) := by
  refine ⟨⟨_, x.toInCall.ns, fun y hy => (if_pos hy).symm⟩, fun y hy => ?_, fun y z c hy hz h1' h2' => ?_⟩
  ·rcases hy with hy | hy
   ·obtain ⟨c, hc⟩ := hcell y hy
    refine ⟨c, hc, ?_⟩
    rw [if_neg (by rw [hy]; simp)]
    exact x.cell y c hc
   ·exact absurd hy (nofree y)
  ·exact name_of_addr x.apart (mem_of_lookup h1') (mem_of_lookup h2')
 have newAll : ∀ a, Fm.all env a → s.heap.get? a = none ∧ ∃ o, h2.get? a = some o := fun a q => by
  refine ⟨?_, fm.alive' q⟩
  rcases q with rfl | ⟨y, hy, hc⟩
  ·rw [hloc]
   cases q : s.heap.get? h1.objs.size with
   | none => rfl
   | some o => exact absurd (Heap.lt_size (k1 _ _ q)) (Nat.lt_irrefl _)
  ·have := x.above y a (mem_of_lookup hc)
   rw [hloc] at this
   cases q : s.heap.get? a with
   | none => rfl
   | some o => exact absurd (Heap.lt_size (k1 _ _ q)) (Nat.not_lt.mpr (Nat.le_of_lt this))
 have gn : Gn A fr base s.heap N env (fun a => W a ∨ Fm.all env a) := by
  refine ⟨by rw [← hN]; exact cx, by rw [he]; rfl, ⟨by rw [he]; exact F.kind, by rw [he]; rfl, by rw [he]; rfl⟩, (newAll _ (.inl rfl)).1, fun a q => .inr q, fun a q => .inl (hfrW a q)⟩
 have kS : ∀ b o, s.heap.get? b = some o → h2.get? b = some o := fun b o e => k2 b o (k1 b o e)
 have go : Go A fr base s.heap N env (fun a => W a ∨ Fm.all env a) (!fe.exact) h2 (fun _ => []) := ⟨gn, Kp.of kS, (fun i a q => by cases q), fun a q => (newAll a (q.imp id fun ⟨y, _, b, c⟩ => ⟨y, .inl b, c⟩)).1⟩
 have si : SI prog w nm env sc (fun a => W a ∨ Fm.all env a) h2 (staOf ps ds') (fun y => if env.kindOf y = some .local then bindL env.kindOf ((ps.map nm).zip us') (fun _ => none) y else bindC env.kindOf ((ps.map nm).zip us') (fun _ => none) y) (fun _ => []) := by
  refine ⟨by rw [he]; rfl, fm, fun i y hi => ?_, fun _ _ => rfl, (fun i a q => by cases q), (fun i j a q => by cases q), fun _ => .nil, fun a q => ?_⟩
  ·obtain ⟨j, d', hj, hd', rfl⟩ := staOf_get F.nodup hi
   obtain ⟨u, hu, ru⟩ := rl1.get hd'
   have hp := F.put i (List.mem_of_getElem? hj)
   have hmem : (nm i, u) ∈ (ps.map nm).zip us' := by
    refine List.mem_of_getElem? (i := j) ?_
    rw [List.getElem?_zip_eq_some]
    exact ⟨by rw [List.getElem?_map, hj]; rfl, hu⟩
   have hb := (bind_get env.kindOf ((ps.map nm).zip us') (fun _ => none) (fun _ => none) hzn (nm i)).1 u hmem
   have hk := putOk_kind (env := env) (sc := sc) (by rw [he]; rfl) hp
   refine ⟨hk.elim .inl fun q => .inr (.inl q), u, ?_, .fr (ru.mono (fun b o _ e => k2 b o e) fun a q => ?_)⟩
   ·split
    ·rename_i q; exact hb.1 q
    ·rename_i q; exact hb.2 q
   ·rcases q with (q | q) | ⟨_, q⟩
    ·exact .inl q
    ·refine .inr ?_
     rcases q with rfl | ⟨y, hy, hc⟩
     ·rw [hloc]; exact push_none _
     ·have := x.above y a (mem_of_lookup hc)
      rw [hloc] at this
      exact Heap.get?_none_of_le (Nat.le_of_lt this)
    ·cases q
  ·rcases q with q | q
   ·obtain ⟨o, e⟩ := hWal a q; exact ⟨o, kS a o e⟩
   ·exact (newAll a q).2
 have run := hex A fr env _ s.heap (up s h2 tk2) _ go si (Nat.le_trans tk (Nat.le_trans hn1 hn2))
 refine run.wp fun f h3 tk3 hn3 q => ?_
 obtain ⟨S', σ', ad', y, m, fo⟩ := q
 cases fo with
 | ret r => exact ⟨_, _, rfl, (go.move m).keep, r.mono (fun _ _ _ e => e) fun a q => .inl (.inl (.inl q))⟩
theorem con_of (am : Am prog w nm fn FT base N) {name : Str} {params : Arguments} {body : List Stmt} {sc : Scope} {b : Bl} {ps : List Nat} {pd : List D → Option (List D)} {pm code doc : Value} {fa : Addr} {o : Obj} {fe : FE}
  (F : Fun prog w nm fn name params body sc b ps pd) (ho : base.get? fa = some o) (hod : o.data = .func (docDef name params body sc pm code doc)) (hcd : base.CodeRec code name) (hlim : base.NoLimit) (hN : fe.need = N + 1)
  (hrun : ∀ ds d, fe.g ds = some d → ∃ n ds' S', pd ds = some ds' ∧ ds'.length = ps.length ∧ exB nm fn FT sc (!fe.exact) n b (staOf ps ds') = some (.ret d, S')) : Con prog w base fe fa := by
 refine con_gen F ho hod hcd hlim hN fun ds d hg => ?_
 refine gg fun G₀ kk => ?_
 obtain ⟨n, ds', S', hpd, hlen, hex⟩ := hrun ds d hg
 refine kk ?_
 refine ⟨ds', hpd, hlen, fun A fr env B h₀ s σ go si tk => ?_⟩
 have run := (soundS am n).b A fr env sc (!fe.exact) B h₀ b (staOf ps ds') (.ret d) S' hex σ _ s go si tk
 rw [F.bodyEq] at run
 exact run.mono fun f h' q => ⟨S', q⟩
end
end
section
noncomputable def rawsOf : List Stmt → Bl
 | [] => .nil
 | s :: r => .cons (.raw s) (rawsOf r)
theorem rawsOf_py (nm fn : Nat → Str) : ∀ l : List Stmt, (rawsOf l).py nm fn = l
 | [] => rfl
 | s :: r => by show s :: (rawsOf r).py nm fn = _; rw [rawsOf_py nm fn r]
noncomputable def recAt (p : Program) (f : Str) : DefRec := ((recsOf p).find? fun d => d.name == f).getD ⟨f, ⟨[], [], none, [], [], none, []⟩, [], ⟨.function, [], false, false, []⟩, ⟨0,0,0,0⟩⟩
noncomputable def bodyOf (p : Program) (f : Str) : List Stmt := (recAt p f).body
noncomputable def nilH : ExceptHandler := ⟨none, none, [], ⟨0,0,0,0⟩⟩
noncomputable def triOf : List Stmt → List ExceptHandler
 | [] => []
 | .Try _ hs _ _ _ :: _ => hs
 | _ :: r => triOf r
noncomputable def hdOf (p : Program) (f : Str) : ExceptHandler := (triOf (bodyOf p f)).headD nilH
noncomputable def htOf (p : Program) (f : Str) : List ExceptHandler := (triOf (bodyOf p f)).tail
noncomputable def nmOf (T : List Str) (i : Nat) : Str := match T[i]? with
 | some x => x
 | none => ⟨#[2000000 + i]⟩
theorem nmOf_inj {T : List Str} (hn : T.Nodup) (hc : ∀ x ∈ T, x.cps.toList.headD 0 < 2000000) : ∀ i j, nmOf T i = nmOf T j → i = j := by
 intro i j h
 unfold nmOf at h
 split at h
 ·rename_i x hx
  split at h
  ·rename_i y hy
   subst h
   have hi : i < T.length := by
    rcases Nat.lt_or_ge i T.length with q | q
    ·exact q
    ·rw [List.getElem?_eq_none q] at hx; cases hx
   exact (List.getElem?_inj hi hn).mp (hx.trans hy.symm)
  ·have := hc x (List.mem_of_getElem? hx)
   rw [h] at this
   simp at this
   omega
 ·split at h
  ·rename_i y hy
   have := hc y (List.mem_of_getElem? hy)
   rw [← h] at this
   simp at this
   omega
  ·injection h with h
   have := congrArg Array.toList h
   simp at this
   exact this
theorem nmOf_ne {T : List Str} {z : Str} (h : ∀ x ∈ T, (x == z) = false) (hz : z.cps.toList.headD 0 < 2000000) (i : Nat) : (nmOf T i == z) = false := by
 unfold nmOf
 split
 ·rename_i x hx; exact h x (List.mem_of_getElem? hx)
 ·cases q : ((⟨#[2000000 + i]⟩ : Str) == z) with
  | false => rfl
  | true =>
   have := eq_of_beq q
   rw [← this] at hz
   simp at hz
   omega
noncomputable def gOf (nm fn : Nat → Str) (FT : List FE) (sc : Scope) (exact : Bool) (b : Bl) (ps : List Nat) (pd : List D → Option (List D)) : List D → Option D := fun ds =>
 match pd ds with
 | some ds' => if ds'.length = ps.length then match exB nm fn FT sc (!exact) 200 b (staOf ps ds') with
  | some (.ret d, _) => some d
  | _ => none else none
 | none => none
theorem gOf_run {nm fn : Nat → Str} {FT : List FE} {sc : Scope} {exact : Bool} {b : Bl} {ps : List Nat} {pd : List D → Option (List D)} {ds : List D} {d : D} (h : gOf nm fn FT sc exact b ps pd ds = some d) :
  ∃ n ds' S', pd ds = some ds' ∧ ds'.length = ps.length ∧ exB nm fn FT sc (!exact) n b (staOf ps ds') = some (.ret d, S') := by
 unfold gOf at h
 split at h
 ·rename_i ds' hp
  split at h
  ·rename_i hl
   split at h
   ·rename_i d' S' he
    cases h
    exact ⟨200, ds', S', hp, hl, he⟩
   ·cases h
  ·cases h
 ·cases h
structure FD where
 name : Str
 exact : Bool
 sc : Scope
 b : Bl
 ps : List Nat
 pd : List D → Option (List D)
noncomputable def FD.fe (nm fn : Nat → Str) (FT : List FE) (f : FD) : FE := ⟨f.name, f.exact, FT.length + 1, gOf nm fn FT f.sc f.exact f.b f.ps f.pd⟩
noncomputable def HasFn (base : Heap) (mg : Str → Option Value) (d : DefRec) : Prop := ∃ a o pm code doc, mg d.name = some (.ref a) ∧ base.get? a = some o ∧ o.data = .func (docDef d.name d.params d.body d.scope pm code doc) ∧ base.CodeRec code d.name
section
variable {prog : Program} {w : World} {nm fn : Nat → Str} {base : Heap}
structure Glb (nm fn : Nat → Str) (base : Heap) (mg mb : Str → Option Value) : Prop where
 nmd : ∀ i, (nm i == "__debug__") = false ∧ (nm i == "__classdict__") = false
 inj : ∀ i j, nm i = nm j → i = j
 fnd : ∀ f, (fn f == "__debug__") = false
 g : base.Ns mainGlobals mg
 b : base.Ns builtinsNs mb
 bi : ∀ b : Bi, mg b.py = none ∧ mb b.py = some b.val
 isS : mg "issubclass" = none ∧ mb "issubclass" = some (.builtin "issubclass")
 isI : mg "isinstance" = none ∧ mb "isinstance" = some (.builtin "isinstance")
 st : mg "str" = none ∧ mb "str" = some (.type "str")
 by' : mg "bytes" = none ∧ mb "bytes" = some (.type "bytes")
 lim : base.NoLimit
noncomputable def Cons (prog : Program) (w : World) (fn : Nat → Str) (base : Heap) (mg : Str → Option Value) (FT : List FE) : Prop :=
 ∀ (f : Nat) (fe : FE), FT[f]? = some fe → ∃ fa o fd, mg (fn f) = some (.ref fa) ∧ base.get? fa = some o ∧ o.data = .func fd ∧ fe.need ≤ FT.length ∧ Con prog w base fe fa
theorem Cons.am {mg mb : Str → Option Value} {FT : List FE} (c : Cons prog w fn base mg FT) (G : Glb nm fn base mg mb) : Am prog w nm fn FT base FT.length :=
 ⟨G.nmd, G.inj, G.fnd, fun b => ⟨mg, mb, G.g, G.b, G.bi b⟩, ⟨mg, mb, G.g, G.b, G.isS⟩, ⟨mg, mb, G.g, G.b, G.isI⟩, ⟨mg, mb, G.g, G.b, G.st⟩, ⟨mg, mb, G.g, G.b, G.by'⟩, mg, G.g, c⟩
theorem Cons.nil {mg : Str → Option Value} : Cons prog w fn base mg [] := fun f fe h => by simp at h
theorem Cons.put {mg : Str → Option Value} {FT : List FE} {fe : FE} (c : Cons prog w fn base mg FT) (hn : fe.need = FT.length + 1) (h : ∃ fa o fd, mg (fn FT.length) = some (.ref fa) ∧ base.get? fa = some o ∧ o.data = .func fd ∧ Con prog w base fe fa) :
  Cons prog w fn base mg (FT ++ [fe]) := by
 intro f fe' hf
 rw [List.getElem?_append] at hf
 split at hf
 ·obtain ⟨fa, o, fd, a, b, c', d, e⟩ := c f fe' hf
  exact ⟨fa, o, fd, a, b, c', by rw [List.length_append]; simp; omega, e⟩
 ·rename_i hl
  have : f - FT.length = 0 := by
   rcases Nat.eq_zero_or_pos (f - FT.length) with q | q
   ·exact q
   ·rw [List.getElem?_eq_none (by simp; omega)] at hf; cases hf
  rw [this] at hf
  have hf : fe = fe' := by simpa using hf
  subst hf
  have : f = FT.length := by omega
  subst this
  obtain ⟨fa, o, fd, a, b, c', e⟩ := h
  exact ⟨fa, o, fd, a, b, c', by rw [List.length_append]; simp; omega, e⟩
theorem Cons.fd {mg mb : Str → Option Value} {FT : List FE} (c : Cons prog w fn base mg FT) (G : Glb nm fn base mg mb) {d : DefRec} (H : HasFn base mg d) (f : FD) (hn : fn FT.length = d.name)
  (F : Fun prog w nm fn d.name d.params d.body f.sc f.b f.ps f.pd) (hs : d.scope = f.sc) : Cons prog w fn base mg (FT ++ [f.fe nm fn FT]) := by
 obtain ⟨a, o, pm, code, doc, h1, h2, h3, h4⟩ := H
 rw [hs] at h3
 exact c.put rfl ⟨a, o, _, by rw [hn]; exact h1, h2, h3, con_of (c.am G) F h2 h3 h4 G.lim rfl fun ds d h => gOf_run h⟩
end
end
section
noncomputable def pdN (k : Nat) : List D → Option (List D) := fun ds => if ds.length = k then some ds else none
theorem RL.len {prog : Program} {w : World} {h : Heap} {W : Addr → Prop} : ∀ {us : List Value} {ds : List D}, RL prog w h W us ds → us.length = ds.length
 | _, _, .nil => rfl
 | _, _, .cons _ r => congrArg (· + 1) r.len
theorem bind_plain {prog : Program} {w : World} {nm : Nat → Str} {ps : List Nat} {name : Str} {params : Arguments} {body : List Stmt} {sc : Scope} {pm code doc : Value} (k : Nat) (hk : ps.length = k)
  (h : ∀ us : List Value, us.length = k → bindArgs (docDef name params body sc pm code doc) ⟨us, []⟩ = pure ((ps.map nm).zip us))
  (A : Around) (s : Shared) (W : Addr → Prop) (us : List Value) (ds ds' : List D) (_ : A.handled = none) (hp : pdN k ds = some ds') (rl : RL prog w s.heap W us ds) (_ : ∀ a, W a → ∃ o, s.heap.get? a = some o) :
  Ok (model prog w) A (bindArgs (docDef name params body sc pm code doc) ⟨us, []⟩) s (fun binds h' => (∀ b o, s.heap.get? b = some o → h'.get? b = some o) ∧ ∃ us', binds = (ps.map nm).zip us' ∧ us'.length = ps.length ∧ RL prog w h' W us' ds') := by
 unfold pdN at hp
 split at hp
 ·rename_i hl
  cases hp
  have hu : us.length = k := rl.len.trans hl
  rw [h us hu]
  exact Ok.pure ⟨fun _ _ e => e, us, rfl, hu.trans hk.symm, rl⟩
 ·cases hp
noncomputable def pdJoin : List D → Option (List D) := fun ds => match ds with
 | [a, b] => some [a, .tup [b]]
 | _ => none
theorem bind_join {prog : Program} {w : World} {nm : Nat → Str} {ps : List Nat} {name : Str} {params : Arguments} {body : List Stmt} {sc : Scope} {pm code doc : Value} {x y : Str} (hk : ps.map nm = [x, y])
  (hb : ∀ v u : Value, bindArgs (docDef name params body sc pm code doc) ⟨[v, u], []⟩ = newTuple [u] >>= fun t => pure [(x, v), (y, t)])
  (A : Around) (s : Shared) (W : Addr → Prop) (us : List Value) (ds ds' : List D) (_ : A.handled = none) (hp : pdJoin ds = some ds') (rl : RL prog w s.heap W us ds) (hW : ∀ a, W a → ∃ o, s.heap.get? a = some o) :
  Ok (model prog w) A (bindArgs (docDef name params body sc pm code doc) ⟨us, []⟩) s (fun binds h' => (∀ b o, s.heap.get? b = some o → h'.get? b = some o) ∧ ∃ us', binds = (ps.map nm).zip us' ∧ us'.length = ps.length ∧ RL prog w h' W us' ds') := by
 have hl : ps.length = 2 := by have := congrArg List.length hk; simpa using this
 unfold pdJoin at hp
 split at hp
 ·rename_i d e
  cases hp
  cases rl with
  | cons r1 rl => cases rl with
   | cons r2 rl => cases rl with
    | nil =>
     rename_i v u
     rw [hb]
     refine wpAny_bind (wpAny_newTuple ?_ (by rw [sizeLine_eq]; simp))
     refine Ok.pure (s := { s with heap := s.heap.push (sq "tuple" [u] 0) }) ⟨fun _ _ e => Heap.get?_push_of_some _ e, [v, .ref s.heap.objs.size], ?_, hl.symm, ?_⟩
     ·rw [hk]; rfl
     ·refine .cons (r1.mono (fun _ _ _ e => Heap.get?_push_of_some _ e) fun _ q => .inl q) (.cons (R_push_tup ?_ (.cons r2 .nil)) .nil)
      intro q
      obtain ⟨o, e⟩ := hW _ q
      exact absurd (Heap.lt_size e) (Nat.lt_irrefl _)
 ·cases hp
end
section
noncomputable def rising : List Str → Bool
 | a :: b :: r => ltS a b && rising (b :: r)
 | _ => true
noncomputable def lessS (xs ys : List Str) : List Str := xs.filter fun x => !ys.contains x
noncomputable def sldG : List D → Option D
 | [.lst a, .lst b] => match strsOf a, strsOf b with
  | some xs, some ys => if rising xs && rising ys && decide (xs.length ≤ 100 ∧ ys.length ≤ 100) then some (.tup [.lst ((lessS xs ys).map .str), .lst ((lessS ys xs).map .str)]) else none
  | _, _ => none
 | _ => none
noncomputable def sldFE : FE := ⟨Str.ofString "sorted_list_difference", false, 6, sldG⟩
end
section
structure XN (h h' : Heap) (e : Addr) (c : Value) : Prop where
 keeps : ∀ b o, h.get? b = some o → h'.get? b = some o
 new : h.get? e = none
 there : ∃ ob t, h'.get? e = some ob ∧ ob.cls = .type "IndexError" ∧ ob.data = .fields #[t, .none, c, .none, .bool false, .none]
theorem entry_unchain : entryFor table "proto.unchain" = some Builtin.«proto.unchain» := entryFor_of_fast (by kernel_rfl)
section
variable {prog : Program} {w : World} {A : Around} {E : Value → Shared → Prop} {s : Shared}
theorem XN.of {h h' : Heap} {e : Addr} (x : Heap.NewExc h h' e "IndexError") : XN h h' e .none := ⟨x.keeps, x.new, let ⟨ob, t, a, b, c⟩ := x.there; ⟨ob, t, a, b, c⟩⟩
noncomputable def noCtx (h : Heap) (hd : Option Value) : Prop := match hd with
 | none => True
 | some v => ∃ a o vs, v = .ref a ∧ h.get? a = some o ∧ o.data = .fields vs ∧ vs[2]? = some .none
noncomputable def ctxOf (hd : Option Value) : Value := hd.getD .none
theorem raiseNew_ok {α : Type} {Q : α → Shared → Prop} {e : Addr} {o : Obj} {t : Value} {h₀ : Heap} (hc : noCtx h₀ A.handled) (hk : ∀ b o, h₀.get? b = some o → s.heap.get? b = some o) (hn : h₀.get? e = none) (he : s.heap.get? e = some o) (hcl : o.cls = .type "IndexError") (hdt : o.data = .fields #[t, .none, .none, .none, .bool false, .none])
  (h : ∀ h' tk, XN h₀ h' e (ctxOf A.handled) → E (.ref e) (up s h' tk)) : wpAny (model prog w) A (raiseNew (.ref e) : Sem α) Q E s := by
 unfold raiseNew
 refine wpAny_bind (wpAny_handled ?_)
 cases hh : A.handled with
 | none =>
  rw [hh] at h
  first
   | refine wpAny_throw ?_
   | refine wpAny_bind (wpAny_pure (wpAny_throw ?_))
  exact h s.heap s.toks ⟨hk, hn, o, t, he, hcl, hdt⟩
 | some v =>
  rw [hh] at h hc
  obtain ⟨a, o', vs, rfl, ha, hda, h2⟩ := hc
  have hae : a ≠ e := by rintro rfl; rw [hn] at ha; cases ha
  show wpAny _ A (if (Value.ref a != Value.ref e) = true then _ else _) Q E s
  rw [if_pos (by simpa using hae)]
  refine wpAny_bind (wpAny_holding (wpAny_runValue (codeAny_builtin entry_unchain ?_)))
  show wpAny _ _ (field (.ref a) 2 >>= _) _ _ s
  refine wpAny_bind (wpAny_field (hk _ _ ha) hda h2 ?_)
  rw [if_pos (by rfl)]
  refine wpAny_pure ?_
  show wpAny _ A (setField (.ref e) 2 (.ref a) >>= _) Q E s
  refine wpAny_bind (wpAny_setField he hdt (by show 2 < 6; decide) (wpAny_throw ?_))
  refine h _ s.toks ⟨fun b o' hb => ?_, hn, _, t, Heap.get?_update_self _ he (Obj.isFreed_of_fields (Obj.data_mapFields hdt _)), by rw [Obj.cls_mapFields]; exact hcl, by rw [Obj.data_mapFields hdt]; simp [ctxOf]⟩
  exact (Heap.get?_update_other _ _ (by rintro rfl; rw [hn] at hb; cases hb)).trans (hk b o' hb)
theorem raiseIdx_made {α : Type} {Q : α → Shared → Prop} {msg : String} (hc : noCtx s.heap A.handled) (h : ∀ h' tk e, XN s.heap h' e (ctxOf A.handled) → E (.ref e) (up s h' tk)) (hm : (msg : Str).length ≤ sizeLine := by size_fits) :
  wpAny (model prog w) A (raiseErrorMade "IndexError" msg : Sem α) Q E s := by
 unfold raiseErrorMade
 refine wpAny_bind (wpAny_mkStr (wpAny_bind ?_) hm)
 unfold newExc newTuple
 refine wpAny_bind (wpAny_newObj_type ?_)
 refine wpAny_bind (m := firstArgMember _ _) (wpAny_of_eq (a := Value.none) (by simp only [firstArgMember, plainExc_IndexError.first]; rfl) ?_)
 rw [plainExc_IndexError.own]
 refine wpAny_newObj_type ?_
 exact raiseNew_ok (h₀ := s.heap) (t := .ref s.heap.objs.size) hc (fun b o hb => Heap.get?_push_of_some _ (Heap.get?_push_of_some _ hb)) (Heap.get?_none_of_le (by simp)) (Heap.get?_push_size _ rfl) rfl (by simp) fun h' tk x => h h' tk _ x
theorem raiseIdx_words {α : Type} {Q : α → Shared → Prop} {msg : String} (hc : noCtx s.heap A.handled) (h : ∀ h' tk e, XN s.heap h' e (ctxOf A.handled) → E (.ref e) (up s h' tk)) :
  wpAny (model prog w) A (raiseErrorWords "IndexError" msg : Sem α) Q E s := by
 unfold raiseErrorWords
 refine wpAny_bind (wpAny_mkText (wpAny_bind ?_))
 unfold newExc newTuple
 refine wpAny_bind (wpAny_newObj_type ?_)
 refine wpAny_bind (m := firstArgMember _ _) (wpAny_of_eq (a := Value.none) (by simp only [firstArgMember, plainExc_IndexError.first]; rfl) ?_)
 rw [plainExc_IndexError.own]
 refine wpAny_newObj_type ?_
 exact raiseNew_ok (h₀ := s.heap) (t := .ref s.heap.objs.size) hc (fun b o hb => Heap.get?_push_of_some _ (Heap.get?_push_of_some _ hb)) (Heap.get?_none_of_le (by simp)) (Heap.get?_push_size _ rfl) rfl (by simp) fun h' tk x => h h' tk _ x
theorem listItem_out {l : Addr} {items : Array Value} {k : Int} {t : Tok} {Q : Value → Shared → Prop} (hc : noCtx s.heap A.handled) (hl : s.heap.IsList l items) (hout : (items.size : Int) ≤ k) (hhi : k < 2 ^ 63)
  (h : ∀ h' tk e, XN s.heap h' e (ctxOf A.handled) → E (.ref e) (up s h' tk)) : wpAny (model prog w) A (getItem (.ref l) (.int k t)) Q E s := by
 obtain ⟨o, ho, hcl, ne, hd⟩ := id hl
 unfold getItem
 refine wpAny_holding ?_
 refine wpAny_bind (wpAny_sequenceKey hl.typeIs (by decide) ?_)
 refine wpAny_bind (wpAny_callSpecial?_slot (name := Str.ofString "__getitem__") hl.typeIs slot_list_getitem (wpAny_call_entry slot_list_getitem hl.typeIs entry_list_getitem ?_ (args_list_getitem _ _)))
 show wpAny _ _ (Builtin.List.listSubscript? (.int k t) >>= _) _ _ s
 refine wpAny_bind (wpAny_listSubscript_int (fitsIndex_both (by omega) hhi) ?_)
 clear hhi
 cases k with
 | negSucc j => omega
 | ofNat j =>
  have hx : items[j]? = none := Array.getElem?_eq_none (by have : (items.size : Int) ≤ (j : Int) := hout; omega)
  show wpAny _ _ ((seqItemAt l j >>= fun r => pure (r.map (j, ·))) >>= _) _ _ s
  refine wpAny_bind (wpAny_bind (wpAny_seqItemAt ho hd (wpAny_pure ?_)))
  rw [hx]
  have hc' : noCtx s.heap A.in1.handled := hc
  have h' : ∀ h' tk e, XN s.heap h' e (ctxOf A.in1.handled) → E (.ref e) (up s h' tk) := h
  first
   | exact wpAny_bind (wpAny_rule (raiseIdx_made hc' h'))
   | exact wpAny_bind (wpAny_rule (raiseIdx_words hc' h'))
   | exact wpAny_bind (wpAny_rule (wpAny_bind (raiseIdx_made hc' h')))
   | exact wpAny_bind (wpAny_rule (wpAny_bind (raiseIdx_words hc' h')))
   | exact wpAny_bind (wpAny_bind (wpAny_rule (raiseIdx_made hc' h')))
   | exact wpAny_rule (raiseIdx_made hc' h')
   | exact wpAny_rule (raiseIdx_words hc' h')
end
end
section
inductive Tr (P : Addr → Prop) (base h : Heap) (e : Addr) (c fl : Value) : Prop
 | mk (oe : Obj) (vs : Array Value) (T : Addr) (oT : Obj) (ts : Array Value) (h1 : P T) (h2 : h.get? e = some oe) (h3 : oe.cls = .type "IndexError") (h4 : oe.data = .fields vs) (h5 : vs[1]? = some (.ref T)) (h6 : vs[2]? = some c) (h7 : base.get? T = none) (h8 : T ≠ e) (h9 : h.get? T = some oT) (h10 : oT.data = .fields ts) (h11 : ts[3]? = some fl) : Tr P base h e c fl
theorem Tr.imp {P P' : Addr → Prop} {base h : Heap} {e : Addr} {c fl : Value} (x : Tr P base h e c fl) (k : ∀ T, P T → P' T) : Tr P' base h e c fl :=
 let ⟨oe, vs, T, oT, ts, h1, h2, h3, h4, h5, h6, h7, h8, h9, h10, h11⟩ := x; ⟨oe, vs, T, oT, ts, k T h1, h2, h3, h4, h5, h6, h7, h8, h9, h10, h11⟩
inductive Fs (h : Heap) (e : Addr) (c : Value) : Prop
 | mk (oe : Obj) (vs : Array Value) (h2 : h.get? e = some oe) (h3 : oe.cls = .type "IndexError") (h4 : oe.data = .fields vs) (h5 : vs[1]? = some .none) (h6 : vs[2]? = some c) : Fs h e c
structure Kx (base : Heap) (l : List Env) (h h' : Heap) : Prop where
 stay : base.StaysIn h'
 ff : h'.FunFrames base l
 up : h.UpToSlots h'
 al : ∀ a o, h.get? a = some o → ∃ o', h'.get? a = some o'
section
variable {M : Model} {A : Around} {E : Value → Shared → Prop} {s : Shared} {base : Heap} {env : Env} {outer : List Env} {L e : Addr} {c : Value}
theorem note_first {Q : Unit → Shared → Prop} (hfr : A.frames = some (env :: outer)) (hl : s.heap.FunFrames base (env :: outer)) (hf : env.frame = some L) (hkb : base.StaysIn s.heap) (hen : base.get? e = none) (hx : Fs s.heap e c)
  (h : ∀ h', Kx base (env :: outer) s.heap h' → Tr (fun T => s.heap.get? T = none ∧ ∃ o, h'.get? T = some o) base h' e c (rawInt L) → Q () { s with heap := h' }) : wpAny M A (noteFrame (.ref e) env) Q E s := by
 obtain ⟨oe, vs, he, hcl, hd, h1, h2⟩ := hx
 have hsz : 1 < vs.size := (Array.getElem?_eq_some_iff.mp h1).1
 have hene : e ∉ (env :: outer).filterMap (·.frame) := fun hm => by
  obtain ⟨_, o, ho, hnf⟩ := hl.mem hm
  rw [he] at ho; cases ho; exact hnf vs hd
 unfold noteFrame
 simp only [hf]
 refine wpAny_bind (wpAny_field he hd h1 ?_)
 rw [if_neg (by decide)]
 refine wpAny_bind (wpAny_frameOf_fun hfr hl hf fun h₁ hs₁ => ?_)
 refine wpAny_bind (wpAny_entryPlaceOf fun pl hpl => ?_)
 unfold EntryCells.newEntry newFields
 refine wpAny_bind (wpAny_newObj_type ?_ (hpl.sizeOk5 _ _ _ _ _))
 have he₁ : h₁.get? e = some oe := (hs₁.2.1 e hene).trans he
 refine wpAny_setField (Heap.get?_push_of_some _ he₁) hd hsz (h _ ⟨fun b o hb => ?_, hl.of_keeps fun b o hb hnf => ?_, fun b o hb hnf => ?_, fun b o hb => ?_⟩ ?_)
 ·have hb1 : h₁.get? b = some o := (hs₁.2.1 b fun hm => by rw [(hl.mem hm).1] at hb; cases hb).trans (hkb b o hb)
  rw [Heap.get?_update_other _ _ (by rintro rfl; rw [hen] at hb; cases hb)]
  exact Heap.get?_push_of_some _ hb1
 ·obtain ⟨sl, hs⟩ := hs₁.2.2 b o hb
  refine ⟨{ o with slots := sl }, ?_, rfl⟩
  rw [Heap.get?_update_other _ _ (by rintro rfl; rw [he] at hb; cases hb; exact hnf vs hd)]
  exact Heap.get?_push_of_some _ hs
 ·obtain ⟨sl, hs⟩ := hs₁.2.2 b o hb
  refine ⟨sl, ?_⟩
  rw [Heap.get?_update_other _ _ (by rintro rfl; rw [he] at hb; cases hb; exact hnf vs hd)]
  exact Heap.get?_push_of_some _ hs
 ·obtain ⟨sl, hs⟩ := hs₁.2.2 b o hb
  by_cases q : b = e
  ·subst q; exact ⟨_, Heap.get?_update_self _ (Heap.get?_push_of_some _ he₁) (Obj.isFreed_of_fields (Obj.data_mapFields hd _))⟩
  ·exact ⟨_, (Heap.get?_update_other _ _ (Ne.symm q)).trans (Heap.get?_push_of_some _ hs)⟩
 ·have hTe : h₁.objs.size ≠ e := Nat.ne_of_gt (Heap.lt_size he₁)
  have kb₁ : base.StaysIn h₁ := fun b o hbo => (hs₁.2.1 b fun hm => by rw [(hl.mem hm).1] at hbo; cases hbo).trans (hkb b o hbo)
  have hTo : ∀ f : Obj → Obj, ((h₁.push { cls := .type "traceback", dict := none, data := .fields ([Value.none, .ref L, .none, rawInt L, .none] ++ (if pl.isEmpty then List.replicate 6 Value.none else pl)).toArray }).update e f).get? h₁.objs.size = some _ := fun f => (Heap.get?_update_other _ _ (Ne.symm hTe)).trans (Heap.get?_push_size h₁ rfl)
  have hTn : s.heap.get? h₁.objs.size = none := by
   cases z : s.heap.get? h₁.objs.size with
   | none => rfl
   | some o => obtain ⟨sl, q⟩ := hs₁.2.2 _ o z; exact absurd (Heap.lt_size q) (Nat.lt_irrefl _)
  refine ⟨_, _, h₁.objs.size, _, _, ⟨hTn, _, hTo _⟩, Heap.get?_update_self _ (Heap.get?_push_of_some _ he₁) (Obj.isFreed_of_fields (Obj.data_mapFields hd _)), (Obj.cls_mapFields _ _).trans hcl, Obj.data_mapFields hd _, by simp [hsz], ?_, kb₁.fresh, hTe, (Heap.get?_update_other _ _ (Ne.symm hTe)).trans (Heap.get?_push_size h₁ rfl), rfl, by simp⟩
  rw [Array.getElem?_setIfInBounds_ne (by decide)]; exact h2
theorem note_again {Q : Unit → Shared → Prop} (hf : env.frame = some L) {P : Addr → Prop} (hx : Tr P base s.heap e c (rawInt L)) (h : Q () s) : wpAny M A (noteFrame (.ref e) env) Q E s := by
 obtain ⟨oe, vs, T, oT, ts, hP, he, hcl, hd, h1, h2, hnT, hTe, hT, hdT, h3⟩ := hx
 unfold noteFrame
 simp only [hf]
 refine wpAny_bind (wpAny_field he hd h1 ?_)
 rw [if_pos (show (Value.ref T != Value.none) = true from by simp)]
 refine wpAny_bind (wpAny_field hT hdT h3 ?_)
 rw [if_pos (show (rawInt L == rawInt L) = true from by simp)]
 exact wpAny_pure h
theorem flight_set {Q : Unit → Shared → Prop} {l : List Env} {fl : Value} (f : Option Addr) (hl : s.heap.FunFrames base l) (hkb : base.StaysIn s.heap) {P : Addr → Prop} (hx : Tr P base s.heap e c fl)
  (h : ∀ h', Kx base l s.heap h' → Tr P base h' e c (f.elim .none fun f => rawInt f) → (∀ b, ¬ P b → h'.get? b = s.heap.get? b) → Q () { s with heap := h' }) : wpAny M A (setFlight (.ref e) f) Q E s := by
 obtain ⟨oe, vs, T, oT, ts, hP, he, hcl, hd, h1, h2, hnT, hTe, hT, hdT, h3⟩ := hx
 have hsz3 : 3 < ts.size := (Array.getElem?_eq_some_iff.mp h3).1
 unfold setFlight
 refine wpAny_bind (wpAny_field he hd h1 ?_)
 rw [if_pos (show (Value.ref T != Value.none) = true from by simp)]
 have other : ∀ b o, s.heap.get? b = some o → (∀ vs, o.data ≠ .fields vs) → (s.heap.update T (Obj.mapFields (·.setIfInBounds 3 (f.elim .none fun f => rawInt f)))).get? b = some o := fun b o hb hn => by
  rw [Heap.get?_update_other _ _ (by rintro rfl; rw [hT] at hb; cases hb; exact hn ts hdT)]; exact hb
 refine wpAny_setField hT hdT hsz3 (h _ ⟨fun b o hb => ?_, hl.of_keeps fun b o hb hn => ⟨o, other b o hb hn, rfl⟩, fun b o hb hn => ⟨o.slots, other b o hb hn⟩, fun b o hb => ?_⟩ ?_ fun b hb => ?_)
 ·rw [Heap.get?_update_other _ _ (by rintro rfl; rw [hnT] at hb; cases hb)]
  exact hkb b o hb
 ·by_cases q : b = T
  ·subst q; exact ⟨_, Heap.get?_update_self _ hT (Obj.isFreed_of_fields (Obj.data_mapFields hdT _))⟩
  ·exact ⟨o, (Heap.get?_update_other _ _ (Ne.symm q)).trans hb⟩
 ·refine ⟨oe, vs, T, _, _, hP, (Heap.get?_update_other _ _ hTe).trans he, hcl, hd, h1, h2, hnT, hTe, Heap.get?_update_self _ hT (Obj.isFreed_of_fields (Obj.data_mapFields hdT _)), Obj.data_mapFields hdT _, by simp [hsz3]⟩
 ·exact Heap.get?_update_other _ _ (by rintro rfl; exact hb hP)
end
end
section
section
variable {prog : Program} {w : World} {nm : Nat → Str} {base : Heap} {N : Nat} {A : Around} {fr : List Env} {env : Env} {sc : Scope} {B : Addr → Prop} {h₀ : Heap} {S : Sta} {σ : Str → Option Value} {ad : Nat → List Addr} {s : Shared}
theorem Gn.grow {B' : Addr → Prop} (gn : Gn A fr base h₀ N env B) (hB : ∀ a, B a → B' a) : Gn A fr base h₀ N env B' := ⟨gn.cx, gn.frame, gn.g, gn.lnew, fun a q => hB a (gn.fmB a q), fun a q => hB a (gn.frB a q)⟩
theorem SI.shrink {B' : Addr → Prop} {h : Heap} (x : SI prog w nm env sc B' h S σ ad) (hB : ∀ a, B a → B' a) : SI prog w nm env sc B h S σ ad :=
 ⟨x.sc, x.fm, fun i y hi => let ⟨a, u, b, c⟩ := x.sl i y hi; ⟨a, u, b, c.keep (fun _ _ _ e => e) (fun _ _ _ e => e) fun a q => .inl (q.imp (hB a) id)⟩, x.no, fun i a q z => x.nb i a q (hB a z), x.dj, x.nd, fun a q => x.al a (hB a q)⟩
theorem SI.stepX {h h' : Heap} (gn : Gn A fr base h₀ N env B) (x : SI prog w nm env sc B h S σ ad) (k : ∀ b o, ¬ B b → h.get? b = some o → h'.get? b = some o) (up : h.UpToSlots h') (al : ∀ a o, h.get? a = some o → ∃ o', h'.get? a = some o') : SI prog w nm env sc B h' S σ ad := by
 refine ⟨x.sc, ⟨?_, fun y hy => ?_, x.fm.inj⟩, fun i y hi => ?_, x.no, x.nb, x.dj, x.nd, fun a q => let ⟨o, e⟩ := x.al a q; al a o e⟩
 ·obtain ⟨m, a, b⟩ := x.fm.ns
  exact ⟨m, up.ns a, b⟩
 ·obtain ⟨c, a, o, ho, hd⟩ := x.fm.cell y hy
  obtain ⟨sl, e⟩ := up c o ho fun vs q => by rw [hd] at q; cases q
  exact ⟨c, a, _, e, hd⟩
 ·obtain ⟨a, u, b, c⟩ := x.sl i y hi
  exact ⟨a, u, b, c.keep (fun b hb o e => k b o (x.nb i b hb) e) (fun b o hb e => k b o (fun q => hb (.inl q)) e) fun a q => .inl q⟩
inductive Iv (prog : Program) (w : World) (nm : Nat → Str) (fr : List Env) (env : Env) (sc : Scope) (B : Addr → Prop) (hs h : Heap) (S : Sta) : Prop
 | mk (B' : Addr → Prop) (σ : Str → Option Value) (ad : Nat → List Addr) (hB : ∀ a, B a → B' a) (hN : ∀ a, B' a → B a ∨ hs.get? a = none) (x : SI prog w nm env sc B' h S σ ad) (m : Mv true fr env hs (fun _ => []) h ad) : Iv prog w nm fr env sc B hs h S
theorem Mv.thenX {hs h h' : Heap} {ad₀ ad : Nat → List Addr} (m : Mv true fr env hs ad₀ h ad) (k : ∀ b o o', hs.get? b = some o → ¬ SS fr true b → ¬ Fm.at env (fun _ => True) b → h.get? b = some o' → h'.get? b = some o')
  (up : ∀ b o o', hs.get? b = some o → ¬ Fm.at env (fun _ => True) b → h.get? b = some o' → ∃ sl, h'.get? b = some { o' with slots := sl }) (al : ∀ a o, h.get? a = some o → ∃ o', h'.get? a = some o') : Mv true fr env hs ad₀ h' ad :=
 ⟨fun b o h1 h2 h3 e => k b o o e h2 h1 (m.kept b o h1 h2 h3 e), fun b o h1 h3 e => let ⟨sl, e'⟩ := m.slot b o h1 h3 e; let ⟨sl', e''⟩ := up b o _ e h1 e'; ⟨sl', e''⟩, fun b o h3 e => let ⟨o', e'⟩ := m.live b o h3 e; al b o' e', m.new⟩
variable {hs : Heap}
theorem Iv.rd {A' : Around} {i : Nat} {d : D} {p : Pos} (gn : Gn A fr base h₀ N env B) (x : Iv prog w nm fr env sc B hs s.heap S) (nmd : ∀ i, (nm i == "__debug__") = false ∧ (nm i == "__classdict__") = false) (hi : S i = some (.fr d)) :
  Ok (model prog w) A' (eval (.Name (nm i) p) env) s (fun v h' => h' = s.heap ∧ ∃ W, R prog w s.heap W v d) := by
 obtain ⟨B', σ, ad, hB, _, x, _⟩ := x
 obtain ⟨hk, u, hu, c⟩ := x.sl i _ hi
 refine wpAny_Name (load_slot (P := fun v h' => h' = s.heap ∧ ∃ W, R prog w s.heap W v d) gn.g x (nmd i) hi hu ⟨rfl, ?_⟩) (nmd i).1
 generalize ad i = as at c
 cases c with | fr r => exact ⟨_, r⟩
theorem Iv.rdK {A' : Around} {i : Nat} {d : D} {p : Pos} (gn : Gn A fr base h₀ N env B) (x : Iv prog w nm fr env sc B hs s.heap S) (nmd : ∀ i, (nm i == "__debug__") = false ∧ (nm i == "__classdict__") = false) (hi : S i = some (.fr d)) {Q E : Value → Shared → Prop}
  (c : ∀ u W tk, s.toks ≤ tk → R prog w s.heap W u d → Q u (up s s.heap tk)) : wpAny (model prog w) A' (eval (.Name (nm i) p) env) Q E s :=
 (x.rd gn nmd hi).wp fun u h' tk hn q => by rw [q.1]; exact q.2.elim fun W r => c u W tk hn r
theorem Iv.st {A' : Around} {i : Nat} {d : D} {u : Value} {W : Addr → Prop} (gn : Gn A fr base h₀ N env B) (x : Iv prog w nm fr env sc B hs s.heap S) (inj : ∀ i j, nm i = nm j → i = j) (hp : putOk sc (nm i) = true) (hd : d.atom = true) (r : R prog w s.heap W u d) :
  Ok (model prog w) A' (storeName env (nm i) u) s (fun _ h' => Iv prog w nm fr env sc B hs h' (S.put i (.fr d))) := by
 obtain ⟨B', σ, ad, hB, hN, x, m⟩ := x
 exact store_fr (tp := true) (gn.grow hB) x inj hp (r.of_atom hd) fun σ' h' tk _ y mm _ => fin ⟨B', _, _, hB, hN, y, m.trans mm⟩
end
end
section
section
variable {prog : Program} {w : World} {nm : Nat → Str} {base : Heap} {N : Nat} {A : Around} {fr : List Env} {env : Env} {sc : Scope} {B : Addr → Prop} {h₀ hs : Heap} {S : Sta} {s : Shared} {E : Value → Shared → Prop}
inductive Ix (prog : Program) (w : World) (nm : Nat → Str) (fr : List Env) (env : Env) (sc : Scope) (B : Addr → Prop) (hs h : Heap) (S : Sta) (e : Addr) (c fl : Value) : Prop
 | mk (B' : Addr → Prop) (σ : Str → Option Value) (ad : Nat → List Addr) (b' : Heap) (hB : ∀ a, B a → B' a) (hN : ∀ a, B' a → B a ∨ hs.get? a = none) (x : SI prog w nm env sc B' h S σ ad) (m : Mv true fr env hs (fun _ => []) h ad)
  (stay : Heap.StaysIn b' h) (ff : h.FunFrames b' (env :: fr)) (en : b'.get? e = none) (tr : Tr (fun T => B' T ∧ hs.get? T = none) b' h e c fl) : Ix prog w nm fr env sc B hs h S e c fl
theorem Ix.iv {h : Heap} {e : Addr} {c fl : Value} (x : Ix prog w nm fr env sc B hs h S e c fl) : Iv prog w nm fr env sc B hs h S := by
 obtain ⟨B', σ, ad, _, a, b, y, m, _⟩ := x
 exact ⟨B', σ, ad, a, b, y, m⟩
theorem Ix.noCtx {h : Heap} {e : Addr} {fl : Value} (x : Ix prog w nm fr env sc B hs h S e .none fl) : noCtx h (some (.ref e)) := by
 obtain ⟨B', σ, ad, _, a, b, y, m, _, _, _, ⟨oe, vs, _, _, _, _, h1, _, h2, _, h3, _⟩⟩ := x
 exact ⟨_, _, _, rfl, h1, h2, h3⟩
theorem ff_rebase {h h' b b' : Heap} : ∀ {l : List Env}, h.FunFrames b l → (∀ L ∈ l.filterMap (·.frame), b'.get? L = none) → (∀ a o, h.get? a = some o → h'.get? a = some o) → h'.FunFrames b' l
 | [], _, _, _ => trivial
 | env :: rest, hf, hn, hk => by
  obtain ⟨h1, ⟨L, o, h2, h3, h4, h5⟩, h6⟩ := hf
  refine ⟨h1, ⟨L, o, h2, hn L (by rw [List.filterMap_cons, h2]; exact List.mem_cons_self), hk _ _ h4, h5⟩, ff_rebase h6 (fun a ha => hn a ?_) hk⟩
  rw [List.filterMap_cons, h2]
  exact List.mem_cons_of_mem _ ha
theorem Iv.note {A' : Around} {e : Addr} {c : Value} {h1 : Heap} {Q : Unit → Shared → Prop} {tk : Nat} (gn : Gn A fr base h₀ N env B) (hfr : A'.frames = some (env :: fr)) (hff : s.heap.FunFrames base (env :: fr)) (hmB : ∀ a, frA (env :: fr) a → B a) (x : Iv prog w nm fr env sc B hs s.heap S) (xn : XN s.heap h1 e c)
  (k : ∀ h', Ix prog w nm fr env sc B hs h' S e c (rawInt env.locals) → Q () (up s h' tk)) : wpAny (model prog w) A' (noteFrame (.ref e) env) Q E (up s h1 tk) := by
 obtain ⟨B', σ, ad, hB, hN, y, m⟩ := x
 obtain ⟨ob, t, he, hcl, hd⟩ := xn.there
 have stay1 : Heap.StaysIn (TI.gone s.heap ((env :: fr).filterMap (·.frame))) h1 := fun b o q => xn.keeps b o (TI.gone_some q).2
 have en : (TI.gone s.heap ((env :: fr).filterMap (·.frame))).get? e = none := by
  cases q : (TI.gone s.heap ((env :: fr).filterMap (·.frame))).get? e with
  | none => rfl
  | some o => have := (TI.gone_some q).2; rw [xn.new] at this; cases this
 have ff1 : h1.FunFrames (TI.gone s.heap ((env :: fr).filterMap (·.frame))) (env :: fr) := ff_rebase hff (fun L hL => TI.gone_none hL) xn.keeps
 refine note_first (s := (up s h1 tk)) hfr ff1 gn.frame stay1 en ⟨ob, _, he, hcl, hd, rfl, rfl⟩ fun h' kx tr => k h' ?_
 have old : ∀ b o, s.heap.get? b = some o → ¬ B' b → h'.get? b = some o := fun b o q hb => by
  refine kx.stay b o ((TI.gone_get fun hm => hb (hB b (hmB b hm))).trans q)
 have upto : s.heap.UpToSlots h' := (Heap.UpToSlots.of_keeps xn.keeps).trans kx.up
 have alive : ∀ a o, s.heap.get? a = some o → ∃ o', h'.get? a = some o' := fun a o q => kx.al a o (xn.keeps a o q)
 have gone0 : ∀ a, s.heap.get? a = none → hs.get? a = none := fun a q => by
  cases z : hs.get? a with
  | none => rfl
  | some o =>
   obtain ⟨o', z'⟩ := m.live a o (fun i => by simp) z
   rw [q] at z'; cases z'
 refine ⟨fun a => B' a ∨ (s.heap.get? a = none ∧ ∃ o, h'.get? a = some o), σ, ad, _, fun a q => .inl (hB a q), fun a q => ?_, ?_, ?_, kx.stay, kx.ff, en, ?_⟩
 ·rcases q with q | q
  ·exact hN a q
  ·exact .inr (gone0 a q.1)
 ·have z := y.stepX (gn.grow hB) (fun b o hb q => old b o q hb) upto alive
  refine ⟨z.sc, z.fm, fun i yy hi => ?_, z.no, fun i a ha hb => ?_, z.dj, z.nd, fun a q => ?_⟩
  ·obtain ⟨a1, u, b1, cc⟩ := y.sl i yy hi
   refine ⟨a1, u, b1, cc.keep (fun b hb o q => old b o q (y.nb i b hb)) (fun b o hb q => old b o q fun z => hb (.inl z)) fun a q => ?_⟩
   rcases q with (q | q) | q
   ·exact .inl (.inl q)
   ·exact .inr q.1
   ·exact .inl (.inr q)
  ·rcases hb with hb | hb
   ·exact y.nb i a ha hb
   ·cases hs' : S i with
    | none => rw [y.no i hs'] at ha; cases ha
    | some sl =>
     obtain ⟨_, u, _, cc⟩ := y.sl i sl hs'
     obtain ⟨o, q⟩ := cc.alive a ha
     rw [hb.1] at q; cases q
  ·rcases q with q | q
   ·exact z.al a q
   ·exact q.2
 ·refine m.thenX (fun b o o' q1 q2 q3 q4 => ?_) (fun b o o' q1 q3 q4 => ?_) alive
  ·refine kx.stay b o' ((TI.gone_get fun hm => ?_).trans q4)
   rw [List.filterMap_cons, gn.frame] at hm
   rcases List.mem_cons.mp hm with e1 | e1
   ·exact q3 (.inl e1)
   ·exact q2 ⟨rfl, e1⟩
  ·by_cases hm : b ∈ (env :: fr).filterMap (·.frame)
   ·obtain ⟨_, o2, ho2, hnf⟩ := hff.mem hm
    rw [q4] at ho2; cases ho2
    exact upto b o' q4 hnf
   ·exact ⟨o'.slots, kx.stay b o' ((TI.gone_get hm).trans q4)⟩
 ·refine tr.imp fun T hP => ?_
  have hP1 : s.heap.get? T = none := by
   cases z : s.heap.get? T with
   | none => rfl
   | some o => have z1 := xn.keeps T o z; have z2 : h1.get? T = none := hP.1; rw [z2] at z1; cases z1
  exact ⟨.inr ⟨hP1, hP.2⟩, gone0 T hP1⟩
end
end
section
section
variable {prog : Program} {w : World} {nm : Nat → Str} {base : Heap} {N : Nat} {A : Around} {fr : List Env} {env : Env} {sc : Scope} {B : Addr → Prop} {h₀ hs : Heap} {S : Sta} {s : Shared} {E : Value → Shared → Prop}
theorem Ix.flight {A' : Around} {e : Addr} {c fl : Value} {Q : Unit → Shared → Prop} (f : Option Addr) (gn : Gn A fr base h₀ N env B) (x : Ix prog w nm fr env sc B hs s.heap S e c fl)
  (k : ∀ h', Ix prog w nm fr env sc B hs h' S e c (f.elim .none fun f => rawInt f) → Q () { s with heap := h' }) : wpAny (model prog w) A' (setFlight (.ref e) f) Q E s := by
 obtain ⟨B', σ, ad, b', hB, hN, y, m, stay, ff, en, tr⟩ := x
 refine flight_set f ff stay tr fun h' kx tr' same => k h' ?_
 refine ⟨B', σ, ad, b', hB, hN, y.stepX (gn.grow hB) (fun b o hb q => (same b fun z => hb z.1).trans q) kx.up kx.al, ?_, kx.stay, kx.ff, en, tr'⟩
 have hq : ∀ b o o', hs.get? b = some o → s.heap.get? b = some o' → h'.get? b = some o' := fun b o o' q1 q2 => (same b fun z => by rw [z.2] at q1; cases q1).trans q2
 exact m.thenX (fun b o o' q1 _ _ q4 => hq b o o' q1 q4) (fun b o o' q1 _ q4 => ⟨o'.slots, hq b o o' q1 q4⟩) kx.al
theorem ff_keep {h h' b : Heap} : ∀ {l : List Env}, h.FunFrames b l → (∀ L ∈ l.filterMap (·.frame), ∀ o, h.get? L = some o → h'.get? L = some o) → h'.FunFrames b l
 | [], _, _ => trivial
 | env :: rest, hf, hn => by
  obtain ⟨h1, ⟨L, o, h2, h3, h4, h5⟩, h6⟩ := hf
  refine ⟨h1, ⟨L, o, h2, h3, hn L (by rw [List.filterMap_cons, h2]; exact List.mem_cons_self) o h4, h5⟩, ff_keep h6 fun a ha => hn a ?_⟩
  rw [List.filterMap_cons, h2]
  exact List.mem_cons_of_mem _ ha
inductive ITr (hs h : Heap) (e : Addr) (c fl : Value) : Prop
 | mk (oe : Obj) (vs : Array Value) (T : Addr) (oT : Obj) (ts : Array Value) (h1 : hs.get? T = none) (h2 : h.get? e = some oe) (h3 : oe.cls = .type "IndexError") (h4 : oe.data = .fields vs) (h5 : vs[1]? = some (.ref T)) (h6 : vs[2]? = some c) (h9 : h.get? T = some oT) (h10 : oT.data = .fields ts) (h11 : ts[3]? = some fl) : ITr hs h e c fl
theorem Ix.tr {h : Heap} {e : Addr} {c fl : Value} (x : Ix prog w nm fr env sc B hs h S e c fl) : ITr hs h e c fl := by
 obtain ⟨B', σ, ad, b', hB, hN, y, m, stay, ff, en, oe, vs, T, oT, ts, hP, h1, h2, h3, h4, h5, _, _, h6, h7, h8⟩ := x
 exact ⟨oe, vs, T, oT, ts, hP.2, h1, h2, h3, h4, h5, h6, h7, h8⟩
theorem Ix.again {A' : Around} {e : Addr} {c : Value} {Q : Unit → Shared → Prop} (gn : Gn A fr base h₀ N env B) (x : Ix prog w nm fr env sc B hs s.heap S e c (rawInt env.locals)) (k : Q () s) : wpAny (model prog w) A' (noteFrame (.ref e) env) Q E s := by
 obtain ⟨B', σ, ad, b', hB, hN, y, m, stay, ff, en, tr⟩ := x
 exact note_again gn.frame tr k
theorem Ix.st {A' : Around} {e : Addr} {c fl : Value} {i : Nat} {d : D} {u : Value} {W : Addr → Prop} (gn : Gn A fr base h₀ N env B) (nc : ∀ a, Fm.at env (fun _ => True) a → a = env.locals) (x : Ix prog w nm fr env sc B hs s.heap S e c fl) (inj : ∀ i j, nm i = nm j → i = j) (hp : putOk sc (nm i) = true) (hd : d.atom = true) (r : R prog w s.heap W u d) :
  Ok (model prog w) A' (storeName env (nm i) u) s (fun _ h' => Ix prog w nm fr env sc B hs h' (S.put i (.fr d)) e c fl) := by
 obtain ⟨B', σ, ad, b', hB, hN, x, m, stay, ff, en, tr⟩ := x
 refine store_fr (tp := true) (gn.grow hB) x inj hp (r.of_atom hd) fun σ' h' tk _ z mm k => fin ?_
 have keep : ∀ b o, b ≠ env.locals → s.heap.get? b = some o → h'.get? b = some o := fun b o hb q => k b o (fun q => hb (nc b q)) q
 obtain ⟨_, ⟨L, oL, hL1, hL2, hL3, hL4⟩, ffr⟩ := id ff
 rw [gn.frame] at hL1; cases hL1
 have notL : ∀ b o vs, s.heap.get? b = some o → o.data = .fields vs → b ≠ env.locals := fun b o vs q1 q2 e => by
  subst e; rw [hL3] at q1; cases q1; exact hL4 vs q2
 refine ⟨B', _, _, b', hB, hN, z, m.trans mm, fun b o q => keep b o (by rintro rfl; rw [hL2] at q; cases q) (stay b o q), ?_, en, ?_⟩
 ·obtain ⟨m', hn, _⟩ := z.fm.ns
  obtain ⟨o, es, ep, ho, hd', _⟩ := hn
  refine ⟨ff.1, ⟨_, o, gn.frame, hL2, ho, fun vs q => by rw [hd'] at q; cases q⟩, ff_keep ffr fun a ha o q => keep a o ?_ q⟩
  rintro rfl
  obtain ⟨_, o2, ho2, _⟩ := gn.cx.ff.mem ha
  rw [gn.lnew] at ho2; cases ho2
 ·obtain ⟨oe, vs, T, oT, ts, hP, he, hcl, hdd, h1, h2, hnT, hTe, hT, hdT, h3⟩ := tr
  exact ⟨oe, vs, T, oT, ts, hP, keep _ _ (notL _ _ _ he hdd) he, hcl, hdd, h1, h2, hnT, hTe, keep _ _ (notL _ _ _ hT hdT) hT, hdT, h3⟩
end
end
section
section
variable {prog : Program} {w : World} {nm : Nat → Str} {base : Heap} {N : Nat} {A : Around} {fr : List Env} {env : Env} {sc : Scope} {B : Addr → Prop} {h₀ hs : Heap} {S : Sta} {s : Shared} {E : Value → Shared → Prop}
theorem item_in {A' : Around} {a b : Nat} {zs : List Str} {k : Nat} {z : Str} {pa pb p : Pos} (gn : Gn A fr base h₀ N env B) (x : Iv prog w nm fr env sc B hs s.heap S) (nmd : ∀ i, (nm i == "__debug__") = false ∧ (nm i == "__classdict__") = false)
  (ha : S a = some (.fr (.lst (zs.map .str)))) (hb : S b = some (.fr (.int k))) (hk : zs[k]? = some z) (hl : zs.length ≤ 1000) :
  Ok (model prog w) A' (eval (.Subscript (.Name (nm a) pa) (.Name (nm b) pb) p) env) s (fun v h' => h' = s.heap ∧ ∃ t, v = .str z t) := by
 refine Subscript_ (x.rdK gn nmd ha fun u W tk hn ru => ?_)
 refine Iv.rdK (s := { s with toks := tk }) gn x nmd hb fun v W2 tk2 hn2 rv => ?_
 have hkl : k < zs.length := by
  rcases Nat.lt_or_ge k zs.length with q | q
  ·exact q
  ·rw [List.getElem?_eq_none q] at hk; cases hk
 refine R.intE rv fun t => ?_
 refine R.lstE ru fun l vs n hw hv rb => ?_
 obtain ⟨y, hy, ry⟩ := rb.get (show (zs.map D.str)[k]? = some (.str z) by rw [List.getElem?_map, hk]; rfl)
 revert hy; refine R.strE ry fun t' hy => ?_
 have hlen := rb.length
 rw [List.length_map] at hlen
 exact tail_any (isList_of_sq hv).typeIs slot_list_getitem.lookup (wpAny_getItem_list (isList_of_sq hv) (by omega) (by omega) (by simpa using hy) ⟨_, _, rfl, rfl, _, rfl⟩) rfl
theorem item_out {A' : Around} {a b : Nat} {zs : List Str} {k : Nat} {pa pb p : Pos} {Q : Value → Shared → Prop} (gn : Gn A fr base h₀ N env B) (x : Iv prog w nm fr env sc B hs s.heap S) (nmd : ∀ i, (nm i == "__debug__") = false ∧ (nm i == "__classdict__") = false)
  (ha : S a = some (.fr (.lst (zs.map .str)))) (hb : S b = some (.fr (.int k))) (hk : k = zs.length) (hl : zs.length ≤ 1000) (hc : noCtx s.heap A'.handled)
  (h : ∀ h' tk e, XN s.heap h' e (ctxOf A'.handled) → E (.ref e) (up s h' tk)) :
  wpAny (model prog w) A' (eval (.Subscript (.Name (nm a) pa) (.Name (nm b) pb) p) env) Q E s := by
 refine Subscript_ (x.rdK gn nmd ha fun u W tk hn ru => ?_)
 refine Iv.rdK (s := { s with toks := tk }) gn x nmd hb fun v W2 tk2 hn2 rv => ?_
 refine R.intE rv fun t => ?_
 refine R.lstE ru fun l vs n hw hv rb => ?_
 have hlen := rb.length
 rw [List.length_map] at hlen
 exact tail_any (isList_of_sq hv).typeIs slot_list_getitem.lookup (listItem_out (s := { s with toks := tk2 }) hc (isList_of_sq hv) (by simp; omega) (by omega) fun h' tk e xn => h h' tk e xn) rfl
end
end
section
section
variable {prog : Program} {w : World} {nm : Nat → Str} {base : Heap} {N : Nat} {A : Around} {fr : List Env} {env : Env} {sc : Scope} {B : Addr → Prop} {h₀ hs : Heap} {S : Sta} {s : Shared} {E : Value → Shared → Prop}
theorem aug_ok {A' : Around} {PP : Heap → Sta → Prop} {i : Nat} {k : Int} {pi pc p : Pos} (gn : Gn A fr base h₀ N env B) (x : Iv prog w nm fr env sc B hs s.heap S) (nmd : ∀ i, (nm i == "__debug__") = false ∧ (nm i == "__classdict__") = false)
  (hi : S i = some (.fr (.int k))) (store : ∀ u s', s'.heap = s.heap → (∃ W, R prog w s.heap W u (.int (k + 1))) → Ok (model prog w) A' (storeName env (nm i) u) s' (fun _ h' => PP h' (S.put i (.fr (.int (k + 1)))))) :
  Ok (model prog w) A' (exec (.AugAssign (.Name (nm i) pi) .Add (.Constant (.int 1) 0 pc) p) env) s (fun f h' => f = .next ∧ PP h' (S.put i (.fr (.int (k + 1))))) := by
 obtain ⟨B', σ, ad, hB, hN, y, m⟩ := x
 obtain ⟨hk, u, hu, c⟩ := y.sl i _ hi
 refine wpAny_AugAssign_Name ((load_slot (P := fun v h' => v = u ∧ h' = s.heap) gn.g y (nmd i) hi hu ⟨rfl, rfl⟩).wpE fun tk1 hn1 => ?_)
 have ru : ∃ W, R prog w s.heap W u (.int k) := by
  generalize ad i = as at c
  cases c with | fr r => exact ⟨_, r⟩
 obtain ⟨W, ru⟩ := ru
 refine wpAny_Constant_int ?_
 refine R.intE ru fun t => ?_
 refine P.iadd_int ?_
 refine (store _ { s with toks := tk1 + 1 + 1 } rfl ⟨fun _ => False, R.int (k + 1) _⟩).mono fun _ h' q => ⟨rfl, q⟩
end
end
section
section
variable {prog : Program} {w : World} {nm : Nat → Str} {base : Heap} {N : Nat} {A : Around} {fr : List Env} {env : Env} {sc : Scope} {B : Addr → Prop} {h₀ hs : Heap} {S : Sta} {s : Shared} {E : Value → Shared → Prop}
theorem while_no {A' : Around} {a b c : Nat} {zs : List Str} {k : Nat} {z y : Str} {pa pb pc p p2 p3 : Pos} {body : List Stmt} (gn : Gn A fr base h₀ N env B) (x : Iv prog w nm fr env sc B hs s.heap S) (nmd : ∀ i, (nm i == "__debug__") = false ∧ (nm i == "__classdict__") = false)
  (ha : S a = some (.fr (.lst (zs.map .str)))) (hb : S b = some (.fr (.int k))) (hc : S c = some (.fr (.str y))) (hk : zs[k]? = some z) (hl : zs.length ≤ 1000) (hz : (z == y) = false) :
  Ok (model prog w) A' (exec (.While (.Compare (.Subscript (.Name (nm a) pa) (.Name (nm b) pb) p) [.Eq] [.Name (nm c) pc] p2) body [] p3) env) s (fun f h' => f = .next ∧ h' = s.heap) := by
 refine wpAny_While (codeAny_whileLoop (fun _ s' => s' = s) (fun n s' hs' => ?_) 0 rfl)
 subst hs'
 refine wpAny_isTrue_Compare1 ((item_in gn x nmd ha hb hk hl).wp fun u h' tk hn q => ?_) rfl
 obtain ⟨rfl, t, rfl⟩ := q
 refine Iv.rdK (s := { s' with toks := tk }) gn x nmd hc fun v W tk2 hn2 rv => ?_
 refine R.strE rv fun t2 => ?_
 refine PyProof.Rows.eq_str ?_
 rw [hz]
 exact wpAny_truthy_bool (wpAny_execs_nil ⟨_, _, rfl, rfl, rfl⟩)
theorem while_out {A' : Around} {a b c : Nat} {zs : List Str} {k : Nat} {pa pb pc p p2 p3 : Pos} {body : List Stmt} {Q : Flow → Shared → Prop} (gn : Gn A fr base h₀ N env B) (hfr : A'.frames = some (env :: fr)) (hff : s.heap.FunFrames base (env :: fr)) (hmB : ∀ a, frA (env :: fr) a → B a)
  (x : Iv prog w nm fr env sc B hs s.heap S) (nmd : ∀ i, (nm i == "__debug__") = false ∧ (nm i == "__classdict__") = false)
  (ha : S a = some (.fr (.lst (zs.map .str)))) (hb : S b = some (.fr (.int k))) (hk : k = zs.length) (hl : zs.length ≤ 1000) (hc : noCtx s.heap A'.handled)
  (h : ∀ h' tk e, Ix prog w nm fr env sc B hs h' S e (ctxOf A'.handled) (rawInt env.locals) → E (.ref e) (up s h' tk)) :
  wpAny (model prog w) A' (exec (.While (.Compare (.Subscript (.Name (nm a) pa) (.Name (nm b) pb) p) [.Eq] [.Name (nm c) pc] p2) body [] p3) env) Q E s := by
 refine wpAny_While (codeAny_whileLoop (fun _ s' => s' = s) (fun n s' hs' => ?_) 0 rfl)
 subst hs'
 refine wpAny_isTrue_Compare1 (item_out gn x nmd ha hb hk hl hc fun h1 tk e xn => ?_) rfl
 refine Iv.note gn hfr hff hmB x xn fun h2 ix => ?_
 obtain ⟨oe, vs, T, _, _, _, he, _, hd, h1', _⟩ := ix.tr
 refine wpAny_bind (wpAny_field he hd h1' ?_)
 rw [if_neg (by simp)]
 rw [show env.frame = some env.locals from gn.frame]
 exact Ix.flight (s := (up s' h2 tk)) (some env.locals) gn ix fun h3 ix3 => h h3 tk e ix3
end
end
section
section
variable {prog : Program} {w : World} {nm : Nat → Str} {base : Heap} {N : Nat} {A : Around} {fr : List Env} {env : Env} {sc : Scope} {B : Addr → Prop} {h₀ hs : Heap} {S : Sta} {s : Shared} {E : Value → Shared → Prop}
theorem asg_in {A' : Around} {a b c : Nat} {zs : List Str} {k : Nat} {z : Str} {pa pb pc p p2 : Pos} (gn : Gn A fr base h₀ N env B) (x : Iv prog w nm fr env sc B hs s.heap S) (nmd : ∀ i, (nm i == "__debug__") = false ∧ (nm i == "__classdict__") = false) (inj : ∀ i j, nm i = nm j → i = j) (hp : putOk sc (nm c) = true)
  (ha : S a = some (.fr (.lst (zs.map .str)))) (hb : S b = some (.fr (.int k))) (hk : zs[k]? = some z) (hl : zs.length ≤ 1000) :
  Ok (model prog w) A' (exec (.Assign [.Name (nm c) pc] (.Subscript (.Name (nm a) pa) (.Name (nm b) pb) p) p2) env) s (fun f h' => f = .next ∧ Iv prog w nm fr env sc B hs h' (S.put c (.fr (.str z)))) := by
 refine wpAny_Assign_Name ((item_in gn x nmd ha hb hk hl).wp fun u h' tk hn q => ?_)
 obtain ⟨rfl, t, rfl⟩ := q
 exact (Iv.st (s := { s with toks := tk }) gn x inj hp rfl (R.str (W := fun _ => False) z t)).mono fun _ h' q => ⟨rfl, q⟩
theorem asg_out {A' : Around} {a b c : Nat} {zs : List Str} {k : Nat} {pa pb pc p p2 : Pos} {Q : Flow → Shared → Prop} (gn : Gn A fr base h₀ N env B) (x : Iv prog w nm fr env sc B hs s.heap S) (nmd : ∀ i, (nm i == "__debug__") = false ∧ (nm i == "__classdict__") = false)
  (ha : S a = some (.fr (.lst (zs.map .str)))) (hb : S b = some (.fr (.int k))) (hk : k = zs.length) (hl : zs.length ≤ 1000) (hc : noCtx s.heap A'.handled)
  (h : ∀ h' tk e, XN s.heap h' e (ctxOf A'.handled) → E (.ref e) (up s h' tk)) :
  wpAny (model prog w) A' (exec (.Assign [.Name (nm c) pc] (.Subscript (.Name (nm a) pa) (.Name (nm b) pb) p) p2) env) Q E s := by
 exact wpAny_Assign_Name (item_out gn x nmd ha hb hk hl hc h)
theorem app_ok {A' : Around} {i c : Nat} {ds : List D} {y : Str} {pi pa pc pq p : Pos} (gn : Gn A fr base h₀ N env B) (x : Iv prog w nm fr env sc B hs s.heap S) (nmd : ∀ i, (nm i == "__debug__") = false ∧ (nm i == "__classdict__") = false)
  (hi : S i = some (.li ds)) (hc : S c = some (.fr (.str y))) (hpos : (pa.endLine == pq.line) = true) (hl0 : ds.length ≤ 1000) :
  Ok (model prog w) A' (exec (.Expr (.Call (.Attribute (.Name (nm i) pi) "append" pa) [.Name (nm c) pc] [] pq) p) env) s (fun f h' => f = .next ∧ Iv prog w nm fr env sc B hs h' (S.put i (.li (ds ++ [.str y])))) := by
 obtain ⟨B', σ, ad, hB, hN, x', m⟩ := id x
 obtain ⟨hk, u, hu, cs⟩ := x'.sl i _ hi
 refine wpAny_Expr_any ?_ (by unfold interactive; rw [gn.g.kind]; rfl) rfl
 have hu1 : ∃ a us m, u = .ref a ∧ ad i = [a] ∧ s.heap.get? a = some (sq "list" us m) := by
  generalize ad i = as at cs
  cases cs with | li e1 _ _ => exact ⟨_, _, _, rfl, rfl, e1⟩
 obtain ⟨a, us0, m0, rfl, hadi, hl1⟩ := hu1
 refine wpAny_Call_method_lateS rfl rfl hpos ((show Ok (model prog w) A' (eval (.Name (nm i) pi) env) s (fun v h' => v = .ref a ∧ h' = s.heap) from wpAny_Name (load_slot gn.g x' (nmd i) hi hu ⟨rfl, rfl⟩) (nmd i).1).wpE fun tk1 hn1 => ?_)
 refine ⟨"list", "list.append", F.plainAttrs_list, F.slot_list_append, F.type_list_append, ⟨_, hl1, rfl⟩, (fun b q => by cases q; exact ⟨_, hl1, rfl⟩), ?_⟩
 refine callWith_builtin rfl (evalArgs_plain (spliced_cons (Iv.rdK (s := { s with toks := tk1 }) gn x nmd hc fun v2 W tk2 hn2 r2 => ?_)))
 refine spliced_nil ?_
 rw [hadi] at cs
 cases cs with | @li _ us m' _ hl rl hat =>
 have hlen := rl.length
 refine wpAny_list_append_plain (items := us.toArray) ⟨m', hl⟩ (fun h3 hl3 hsb => ?_) (by rw [List.size_toArray, hlen, sizeLine_eq]; omega)
 obtain ⟨m2, hl3⟩ := hl3
 have hl3' : h3.get? a = some (sq "list" (us ++ [v2]) m2) := by rw [hl3]; simp [sq]
 have hat' : (ds ++ [D.str y]).all D.atom = true := by rw [List.all_append, hat]; rfl
 obtain ⟨z, mv⟩ := own_change (tp := true) (fr := fr) (s := s) (h' := h3) (sl' := .li (ds ++ [.str y])) x' hi hu (gn.grow hB) (fun b o hb e => (hsb.2 b fun q => hb (by rw [hadi]; exact List.mem_singleton.mpr q)).trans e)
  (by rw [hadi]; exact .li hl3' ((rl.append (.cons (r2.of_atom rfl) .nil)).atoms hat') hat')
 exact ⟨_, _, rfl, rfl, B', σ, ad, hB, hN, z, m.trans mv⟩
end
end
section
section
variable {prog : Program} {w : World} {nm : Nat → Str} {base : Heap} {N : Nat} {A : Around} {fr : List Env} {env : Env} {sc : Scope} {B : Addr → Prop} {h₀ hs : Heap} {S : Sta} {s : Shared} {E : Value → Shared → Prop}
theorem Iv.keep {h h' : Heap} (gn : Gn A fr base h₀ N env B) (x : Iv prog w nm fr env sc B hs h S) (k : ∀ b o, h.get? b = some o → h'.get? b = some o) : Iv prog w nm fr env sc B hs h' S := by
 obtain ⟨B', σ, ad, hB, hN, y, m⟩ := x
 exact ⟨B', σ, ad, hB, hN, y.stepX (gn.grow hB) (fun b o _ e => k b o e) (.of_keeps k) fun a o e => ⟨o, k a o e⟩, m.trans (Mv.eval (tp := true) (gn.grow hB) (Kp.of k))⟩
theorem tail_ok {A' : Around} {a b : Nat} {zs : List Str} {k : Nat} {pa pb ps p : Pos} (gn : Gn A fr base h₀ N env B) (x : Iv prog w nm fr env sc B hs s.heap S) (nmd : ∀ i, (nm i == "__debug__") = false ∧ (nm i == "__classdict__") = false)
  (ha : S a = some (.fr (.lst (zs.map .str)))) (hb : S b = some (.fr (.int k))) (hl : zs.length ≤ 1000) :
  Ok (model prog w) A' (eval (.Subscript (.Name (nm a) pa) (.Slice (some (.Name (nm b) pb)) none none ps) p) env) s (fun v h' => (∀ b o, s.heap.get? b = some o → h'.get? b = some o) ∧ R prog w h' (fun _ => False) v (.lst ((zs.drop k).map .str))) := by
 refine Subscript_ (x.rdK gn nmd ha fun u W tk hn ru => ?_)
 refine wpAny_Slice ?_
 show wpAny _ _ (eval (.Name (nm b) pb) env) _ _ _
 refine Iv.rdK (s := { s with toks := tk }) gn x nmd hb fun v W2 tk2 hn2 rv => ?_
 rw [evalPart_none]
 refine wpAny_pure (wpAny_pure ?_)
 have ru' : R prog w s.heap (fun _ => False) u (.lst (zs.map .str)) := ru.mono (fun _ _ _ e => e) fun _ q => q.elim
 have hd : sliceD (.lst (zs.map .str)) (some (.int k)) none = some (.lst ((zs.drop k).map .str)) := by
  have h1 : cutAt zs.length (some (.int k)) 0 = some (min k zs.length) := by simp [cutAt]
  have h2 : cutAt zs.length none zs.length = some zs.length := rfl
  show (match cutAt (zs.map D.str).length (some (.int k)) 0, cutAt (zs.map D.str).length none (zs.map D.str).length with
   | some i, some j => if (zs.map D.str).length ≤ listLine then some (D.lst (((zs.map D.str).take j).drop i)) else none
   | _, _ => none) = _
  rw [List.length_map, h1, h2]
  show (if zs.length ≤ listLine then _ else none) = _
  rw [if_pos (by unfold listLine; omega), ← List.map_take, ← List.map_drop, List.take_length]
  congr 3
  rcases Nat.le_total k zs.length with q | q
  ·rw [Nat.min_eq_left q]
  ·rw [Nat.min_eq_right q, List.drop_eq_nil_of_le q, List.drop_length]
 obtain ⟨T, id, hT, hl', g⟩ := getItem_slice_ok (A := A') (s := { s with toks := tk2 }) hd ru' (PartR.of rv) .none (fun _ _ q => q)
 exact tail_any (hT _ rfl) hl' (g.wp fun c h3 tk3 hn3 p3 => ⟨_, _, rfl, p3⟩) rfl
theorem ext_ok {A' : Around} {i a b : Nat} {ds : List D} {zs : List Str} {k : Nat} {pi pa pq p pa' pb ps p2 : Pos} (gn : Gn A fr base h₀ N env B) (x : Iv prog w nm fr env sc B hs s.heap S) (nmd : ∀ i, (nm i == "__debug__") = false ∧ (nm i == "__classdict__") = false)
  (hi : S i = some (.li ds)) (ha : S a = some (.fr (.lst (zs.map .str)))) (hb : S b = some (.fr (.int k))) (hpos : (pa.endLine == pq.line) = true) (hl0 : ds.length ≤ 1000) (hl : zs.length ≤ 1000) :
  Ok (model prog w) A' (exec (.Expr (.Call (.Attribute (.Name (nm i) pi) "extend" pa) [.Subscript (.Name (nm a) pa') (.Slice (some (.Name (nm b) pb)) none none ps) p2] [] pq) p) env) s (fun f h' => f = .next ∧ Iv prog w nm fr env sc B hs h' (S.put i (.li (ds ++ (zs.drop k).map .str)))) := by
 obtain ⟨B', σ, ad, hB, hN, x', m⟩ := id x
 obtain ⟨hk, u, hu, cs⟩ := x'.sl i _ hi
 refine wpAny_Expr_any ?_ (by unfold interactive; rw [gn.g.kind]; rfl) rfl
 have hu1 : ∃ a us m, u = .ref a ∧ ad i = [a] ∧ s.heap.get? a = some (sq "list" us m) := by
  generalize ad i = as at cs
  cases cs with | li e1 _ _ => exact ⟨_, _, _, rfl, rfl, e1⟩
 obtain ⟨l, us0, m0, rfl, hadi, hl1⟩ := hu1
 refine wpAny_Call_method_lateS rfl rfl hpos ((show Ok (model prog w) A' (eval (.Name (nm i) pi) env) s (fun v h' => v = .ref l ∧ h' = s.heap) from wpAny_Name (load_slot gn.g x' (nmd i) hi hu ⟨rfl, rfl⟩) (nmd i).1).wpE fun tk1 hn1 => ?_)
 refine ⟨"list", "list.extend", F.plainAttrs_list, F.slot_list_extend, F.type_list_extend, ⟨_, hl1, rfl⟩, (fun b q => by cases q; exact ⟨_, hl1, rfl⟩), ?_⟩
 refine callWith_builtin rfl (evalArgs_plain (spliced_cons ((tail_ok (s := { s with toks := tk1 }) gn x nmd ha hb hl).wp2 fun v2 h2 tk2 hn2 k2 r2 => ?_)))
 refine spliced_nil ?_
 refine R.lstE r2 fun l2 us2 n2 _ hl2 rl2 => ?_
 have y := x'.stepX (gn.grow hB) (fun b o _ e => k2 b o e) (.of_keeps k2) fun a o e => ⟨o, k2 a o e⟩
 have m' := m.trans (Mv.eval (tp := true) (gn.grow hB) (Kp.of k2))
 have cs := y.at hi hu
 rw [hadi] at cs
 cases cs with | @li _ us mm _ hll rl hat =>
 have hlen := rl.length
 have hlen2 := rl2.length
 rw [List.length_map, List.length_drop] at hlen2
 refine call_meets PySem.F.slot_list_extend ⟨_, hll, rfl⟩ PySem.F.entry_list_extend (PySem.F.args_list_extend_2 _ _) (AutoSeq1.list_extend_list_list_0 l us.toArray mm l2 us2.toArray n2 ?_ ?_ ?_) ⟨hll, hl2, ?_⟩
 ·exact extend_door (by simp only [List.size_toArray, sizeLine_eq]; omega)
 ·simp only [List.size_toArray, sizeLine_eq]; omega
 ·simp only [List.size_toArray, sizeLine_eq]; omega
 show ∃ h' tk, _
 have hsame : ∀ b o, b ≠ l → h2.get? b = some o → (h2.update l (Obj.mapSeq fun x => x ++ us2.toArray)).get? b = some o := fun b o hb e => (Heap.get?_update_ne _ _ _ _ hb).trans e
 have hnew : ∃ n3, (h2.update l (Obj.mapSeq fun x => x ++ us2.toArray)).get? l = some (sq "list" (us ++ us2) n3) := ⟨_, by rw [get?_update_seq hll (fun x => x ++ us2.toArray), List.append_toArray]⟩
 obtain ⟨n3, hl3⟩ := hnew
 have hatz : ((zs.drop k).map D.str).all D.atom = true := by rw [List.all_eq_true]; intro d hd; obtain ⟨z, _, rfl⟩ := List.mem_map.mp hd; rfl
 have hat' : (ds ++ (zs.drop k).map D.str).all D.atom = true := by rw [List.all_append, hat, hatz]; rfl
 obtain ⟨z, mv⟩ := own_change (tp := true) (fr := fr) (s := (up s h2 tk2)) (h' := h2.update l (Obj.mapSeq fun x => x ++ us2.toArray)) (sl' := .li (ds ++ (zs.drop k).map .str)) y hi hu (gn.grow hB) (fun b o hb e => hsame b o (by rw [hadi] at hb; simpa using hb) e)
  (by rw [hadi]; exact .li hl3 ((rl.append (rl2.atoms hatz)).atoms hat') hat')
 exact ⟨_, _, rfl, rfl, B', σ, ad, hB, hN, z, m'.trans mv⟩
end
end
section
noncomputable def mg : List Str → List Str → List Str × List Str
 | [], ys => ([], ys)
 | xs, [] => (xs, [])
 | x :: xs, y :: ys => if ltS x y then (x :: (mg xs (y :: ys)).1, (mg xs (y :: ys)).2) else if ltS y x then ((mg (x :: xs) ys).1, y :: (mg (x :: xs) ys).2) else mg xs ys
termination_by xs ys => xs.length + ys.length
theorem ltS_lt {a b : Str} : ltS a b = true ↔ a.cps.toList < b.cps.toList := by unfold ltS; exact decide_eq_true_iff
theorem ltS_trans {a b c : Str} (h : ltS a b = true) (h' : ltS b c = true) : ltS a c = true := ltS_lt.mpr (List.lt_trans (ltS_lt.mp h) (ltS_lt.mp h'))
theorem ltS_irrefl (a : Str) : ltS a a = false := by
 cases h : ltS a a with
 | false => rfl
 | true => exact absurd (ltS_lt.mp h) (List.lt_irrefl _)
theorem ltS_ne {a b : Str} (h : ltS a b = true) : a ≠ b := by rintro rfl; rw [ltS_irrefl] at h; cases h
theorem rising_all : ∀ {x : Str} {xs : List Str}, rising (x :: xs) = true → (∀ z ∈ xs, ltS x z = true) ∧ rising xs = true
 | x, [], _ => ⟨(fun z h => (by cases h)), rfl⟩
 | x, y :: r, h => by
  unfold rising at h
  rw [Bool.and_eq_true] at h
  obtain ⟨h1, h2⟩ := rising_all h.2
  refine ⟨fun z hz => ?_, h.2⟩
  rcases List.mem_cons.mp hz with rfl | hz
  ·exact h.1
  ·exact ltS_trans h.1 (h1 z hz)
theorem lessS_cons_far {x : Str} {xs ys : List Str} (h : ∀ z ∈ xs, z ≠ x) : lessS xs (x :: ys) = lessS xs ys := by
 unfold lessS
 refine List.filter_congr fun z hz => ?_
 rw [List.contains_cons, beq_false_of_ne (h z hz), Bool.false_or]
theorem lessS_nil (xs : List Str) : lessS xs [] = xs := by
 unfold lessS
 rw [List.filter_eq_self]
 intro a _
 rfl
theorem mg_eq : ∀ (xs ys : List Str), rising xs = true → rising ys = true → mg xs ys = (lessS xs ys, lessS ys xs)
 | [], ys, _, _ => by unfold mg; rw [lessS_nil]; rfl
 | x :: xs, [], _, _ => by unfold mg; rw [lessS_nil]; rfl
 | x :: xs, y :: ys, hx, hy => by
  obtain ⟨hx1, hx2⟩ := rising_all hx
  obtain ⟨hy1, hy2⟩ := rising_all hy
  unfold mg
  by_cases h1 : ltS x y = true
  ·rw [if_pos h1, mg_eq xs (y :: ys) hx2 hy]
   have nx : ∀ z ∈ y :: ys, z ≠ x := fun z hz e => by
    subst e
    rcases List.mem_cons.mp hz with rfl | hz
    ·rw [ltS_irrefl] at h1; cases h1
    ·exact ltS_ne (ltS_trans h1 (hy1 _ hz)) rfl
   have nc : (y :: ys).contains x = false := by
    cases q : (y :: ys).contains x with
    | false => rfl
    | true => exact absurd rfl (nx x (by simpa using q))
   refine Prod.ext ?_ (lessS_cons_far nx).symm
   show x :: lessS xs (y :: ys) = lessS (x :: xs) (y :: ys)
   unfold lessS
   rw [List.filter_cons, if_pos (by rw [nc]; rfl)]
  ·rw [if_neg h1]
   by_cases h2 : ltS y x = true
   ·rw [if_pos h2, mg_eq (x :: xs) ys hx hy2]
    have ny : ∀ z ∈ x :: xs, z ≠ y := fun z hz e => by
     subst e
     rcases List.mem_cons.mp hz with rfl | hz
     ·rw [ltS_irrefl] at h2; cases h2
     ·exact ltS_ne (ltS_trans h2 (hx1 _ hz)) rfl
    have nc : (x :: xs).contains y = false := by
     cases q : (x :: xs).contains y with
     | false => rfl
     | true => exact absurd rfl (ny y (by simpa using q))
    refine Prod.ext (lessS_cons_far ny).symm ?_
    show y :: lessS ys (x :: xs) = lessS (y :: ys) (x :: xs)
    unfold lessS
    rw [List.filter_cons, if_pos (by rw [nc]; rfl)]
   ·rw [if_neg h2, mg_eq xs ys hx2 hy2]
    have e : x = y := leS_antisymm (by unfold leS; exact Bool.eq_false_iff.mpr h2) (by unfold leS; exact Bool.eq_false_iff.mpr h1)
    subst e
    have a1 : lessS (x :: xs) (x :: ys) = lessS xs ys := by
     rw [← lessS_cons_far (fun z hz e => ltS_ne (hx1 z hz) e.symm)]
     unfold lessS
     rw [List.filter_cons, if_neg (by simp)]
    have a2 : lessS (x :: ys) (x :: xs) = lessS ys xs := by
     rw [← lessS_cons_far (fun z hz e => ltS_ne (hy1 z hz) e.symm)]
     unfold lessS
     rw [List.filter_cons, if_neg (by simp)]
    rw [a1, a2]
termination_by xs ys => xs.length + ys.length
end
section
structure Stt (xs ys : List Str) (i j : Nat) (m u : List Str) (S : Sta) : Prop where
 x : S 0 = some (.fr (.lst (xs.map .str)))
 y : S 1 = some (.fr (.lst (ys.map .str)))
 i : S 2 = some (.fr (.int i))
 j : S 3 = some (.fr (.int j))
 m : S 4 = some (.li (m.map .str))
 u : S 5 = some (.li (u.map .str))
section
variable {xs ys : List Str} {i j : Nat} {m u : List Str} {S : Sta}
theorem Stt.put (x : Stt xs ys i j m u S) {k : Nat} (hk : 6 ≤ k) (sl : Slot) : Stt xs ys i j m u (S.put k sl) := by
 obtain ⟨a, b, c, d, e, f⟩ := x
 constructor <;> (unfold Sta.put; rw [if_neg (by omega)]; assumption)
theorem Stt.putI (x : Stt xs ys i j m u S) (i' : Nat) : Stt xs ys i' j m u (S.put 2 (.fr (.int i'))) := by
 obtain ⟨a, b, c, d, e, f⟩ := x
 constructor <;> (unfold Sta.put; first | (rw [if_neg (by omega)]; assumption) | rw [if_pos rfl])
theorem Stt.putJ (x : Stt xs ys i j m u S) (j' : Nat) : Stt xs ys i j' m u (S.put 3 (.fr (.int j'))) := by
 obtain ⟨a, b, c, d, e, f⟩ := x
 constructor <;> (unfold Sta.put; first | (rw [if_neg (by omega)]; assumption) | rw [if_pos rfl])
theorem Stt.putM (x : Stt xs ys i j m u S) (m' : List Str) : Stt xs ys i j m' u (S.put 4 (.li (m'.map .str))) := by
 obtain ⟨a, b, c, d, e, f⟩ := x
 constructor <;> (unfold Sta.put; first | (rw [if_neg (by omega)]; assumption) | rw [if_pos rfl])
theorem Stt.putU (x : Stt xs ys i j m u S) (u' : List Str) : Stt xs ys i j m u' (S.put 5 (.li (u'.map .str))) := by
 obtain ⟨a, b, c, d, e, f⟩ := x
 constructor <;> (unfold Sta.put; first | (rw [if_neg (by omega)]; assumption) | rw [if_pos rfl])
end
section
variable {prog : Program} {w : World} {nm : Nat → Str} {base : Heap} {N : Nat} {A : Around} {fr : List Env} {env : Env} {sc : Scope} {B : Addr → Prop} {h₀ hs : Heap} {S : Sta} {s : Shared} {E : Value → Shared → Prop}
theorem Iv.cx (go : Go A fr base h₀ N env B true hs (fun _ => [])) (x : Iv prog w nm fr env sc B hs s.heap S) : Cx (A.deeper env) (env :: fr) base s.heap N := by
 obtain ⟨B', σ, ad, hB, hN, y, m⟩ := x
 exact (SI.st (s := { s with toks := 1 }) (go.gn.grow hB) y (go.move m).keep (Nat.zero_le _)).cx
theorem Iv.scope {h : Heap} (x : Iv prog w nm fr env sc B hs h S) : env.scope = sc := by
 obtain ⟨B', σ, ad, hB, hN, y, m⟩ := x
 exact y.sc
theorem Go.frB (go : Go A fr base h₀ N env B true hs (fun _ => [])) : ∀ a, frA (env :: fr) a → B a := fun a q => by
 unfold frA at q
 rw [List.filterMap_cons, go.gn.frame] at q
 rcases List.mem_cons.mp q with rfl | q
 ·exact go.gn.fmB _ (.inl rfl)
 ·exact go.gn.frB a q
structure GlS (nm : Nat → Str) (base : Heap) (sc : Scope) (mg mb : Str → Option Value) : Prop where
 nmd : ∀ i, (nm i == "__debug__") = false ∧ (nm i == "__classdict__") = false
 inj : ∀ i j, nm i = nm j → i = j
 g : base.Ns mainGlobals mg
 b : base.Ns builtinsNs mb
 ie : mg "IndexError" = none ∧ mb "IndexError" = some (.type "IndexError")
 isg : isG sc "IndexError" = true
 put : ∀ k, k < 8 → putOk sc (nm k) = true
variable {mg mb : Str → Option Value}
theorem handler_ok {A' : Around} {e : Addr} {c fl : Value} {xs ys : List Str} {i j : Nat} {m u : List Str} {p0 ph pb a1 a2 a3 a4 a5 a6 a7 a8 b1 b2 b3 b4 b5 b6 b7 b8 : Pos}
  (G : GlS nm base sc mg mb) (go : Go A fr base h₀ N env B true hs (fun _ => [])) (x : Ix prog w nm fr env sc B hs s.heap S e c fl) (st : Stt xs ys i j m u S)
  (hx : xs.length ≤ 100) (hy : ys.length ≤ 100) (hm : m.length ≤ 1000) (hu : u.length ≤ 1000) (hp1 : (a2.endLine == a3.line) = true) (hp2 : (b2.endLine == b3.line) = true) :
  Ok (model prog w) A' (handleBy (.ref e) env [.ExceptHandler (some (.Name "IndexError" p0)) none
   [.Expr (.Call (.Attribute (.Name (nm 4) a1) "extend" a2) [.Subscript (.Name (nm 0) a5) (.Slice (some (.Name (nm 2) a6)) none none a7) a8] [] a3) a4,
    .Expr (.Call (.Attribute (.Name (nm 5) b1) "extend" b2) [.Subscript (.Name (nm 1) b5) (.Slice (some (.Name (nm 3) b6)) none none b7) b8] [] b3) b4, .Break pb] ph]) s
   (fun f h' => f = .brk ∧ ∃ S', Iv prog w nm fr env sc B hs h' S' ∧ S' 4 = some (.li ((m ++ xs.drop i).map .str)) ∧ S' 5 = some (.li ((u ++ ys.drop j).map .str))) := by
 have iv := x.iv
 have cx := iv.cx go
 have hk : env.kindOf "IndexError" = some .globalImplicit := by
  have := G.isg; unfold isG at this; unfold Env.kindOf; rw [iv.scope]; exact eq_of_beq this
 refine wpAny_handleBy_builtin (X := "IndexError") (T := "IndexError") (b := true) (isSubtype_of_subB (by decide +kernel)) (isSubtype_of_subB (by decide +kernel)) (isSubtype_of_subB (by decide +kernel)) ?_
 refine Calls.Name_function_global go.gn.g.kind hk (Calls.loadGlobal_builtin (mg := mg) (mb := mb) ?_ G.ie.1 ?_ G.ie.2 ?_) (by decide)
 ·rw [go.gn.g.gl]; exact G.g.keeps cx.stay
 ·rw [go.gn.g.bl]; exact G.b.keeps cx.stay
 refine ⟨rfl, ?_, ?_⟩
 ·obtain ⟨oe, _, _, _, _, _, he, hcl, _⟩ := x.tr
  exact ⟨_, he, hcl⟩
 rw [if_pos rfl]
 refine x.flight none go.gn fun h1 ix => ?_
 refine wpAny_execs_cons ((ext_ok (s := { s with heap := h1 }) go.gn ix.iv G.nmd st.m st.x st.i hp1 (by rw [List.length_map]; exact hm) (by omega)).wpF fun h2 tk2 hn2 iv2 => ?_)
 rw [← List.map_append] at iv2
 have st2 := st.putM (m ++ xs.drop i)
 refine wpAny_execs_cons ((ext_ok (s := (up s h2 tk2)) go.gn iv2 G.nmd st2.u st2.y st2.j hp2 (by rw [List.length_map]; exact hu) (by omega)).wpF fun h3 tk3 hn3 iv3 => ?_)
 rw [← List.map_append] at iv3
 refine wpAny_execs_cons (wpAny_Break ?_)
 exact ⟨_, _, rfl, rfl, _, iv3, (st2.putU _).m, (st2.putU _).u⟩
end
end
section
noncomputable def sIn (nm : Nat → Str) : Stmt := (.Try (body := [ (.While (test := (.Compare (left := (.Subscript (value := (.Name (nm 0) ⟨26,26,26,34⟩)) (slice := (.Name (nm 2) ⟨26,35,26,36⟩)) (pos := ⟨26,26,26,37⟩))) (ops := [.Eq]) (comparators := [(.Name (nm 6) ⟨26,41,26,42⟩)]) (pos := ⟨26,26,26,42⟩))) (body := [ (.AugAssign (target := (.Name (nm 2) ⟨27,24,27,25⟩)) (op := .Add) (value := (.Constant (.int 1) 0 ⟨27,29,27,30⟩)) (pos := ⟨27,24,27,30⟩))]) (orelse := []) (pos := ⟨26,20,27,30⟩))]) (handlers := []) (orelse := []) (finalbody := [ (.AugAssign (target := (.Name (nm 3) ⟨29,20,29,21⟩)) (op := .Add) (value := (.Constant (.int 1) 0 ⟨29,25,29,26⟩)) (pos := ⟨29,20,29,26⟩)), (.While (test := (.Compare (left := (.Subscript (value := (.Name (nm 1) ⟨30,26,30,32⟩)) (slice := (.Name (nm 3) ⟨30,33,30,34⟩)) (pos := ⟨30,26,30,35⟩))) (ops := [.Eq]) (comparators := [(.Name (nm 7) ⟨30,39,30,40⟩)]) (pos := ⟨30,26,30,40⟩))) (body := [ (.AugAssign (target := (.Name (nm 3) ⟨31,24,31,25⟩)) (op := .Add) (value := (.Constant (.int 1) 0 ⟨31,29,31,30⟩)) (pos := ⟨31,24,31,30⟩))]) (orelse := []) (pos := ⟨30,20,31,30⟩))]) (pos := ⟨25,16,31,30⟩))
noncomputable def sIf (nm : Nat → Str) : Stmt := (.If (test := (.Compare (left := (.Name (nm 6) ⟨13,15,13,16⟩)) (ops := [.Lt]) (comparators := [(.Name (nm 7) ⟨13,19,13,20⟩)]) (pos := ⟨13,15,13,20⟩))) (body := [ (.Expr (value := (.Call (func := (.Attribute (.Name (nm 4) ⟨14,16,14,23⟩) "append" ⟨14,16,14,30⟩)) (args := [(.Name (nm 6) ⟨14,31,14,32⟩)]) (keywords := []) (pos := ⟨14,16,14,33⟩))) (pos := ⟨14,16,14,33⟩)), (.AugAssign (target := (.Name (nm 2) ⟨15,16,15,17⟩)) (op := .Add) (value := (.Constant (.int 1) 0 ⟨15,21,15,22⟩)) (pos := ⟨15,16,15,22⟩)), (.While (test := (.Compare (left := (.Subscript (value := (.Name (nm 0) ⟨16,22,16,30⟩)) (slice := (.Name (nm 2) ⟨16,31,16,32⟩)) (pos := ⟨16,22,16,33⟩))) (ops := [.Eq]) (comparators := [(.Name (nm 6) ⟨16,37,16,38⟩)]) (pos := ⟨16,22,16,38⟩))) (body := [ (.AugAssign (target := (.Name (nm 2) ⟨17,20,17,21⟩)) (op := .Add) (value := (.Constant (.int 1) 0 ⟨17,25,17,26⟩)) (pos := ⟨17,20,17,26⟩))]) (orelse := []) (pos := ⟨16,16,17,26⟩))]) (orelse := [ (.If (test := (.Compare (left := (.Name (nm 6) ⟨18,17,18,18⟩)) (ops := [.Gt]) (comparators := [(.Name (nm 7) ⟨18,21,18,22⟩)]) (pos := ⟨18,17,18,22⟩))) (body := [ (.Expr (value := (.Call (func := (.Attribute (.Name (nm 5) ⟨19,16,19,26⟩) "append" ⟨19,16,19,33⟩)) (args := [(.Name (nm 7) ⟨19,34,19,35⟩)]) (keywords := []) (pos := ⟨19,16,19,36⟩))) (pos := ⟨19,16,19,36⟩)), (.AugAssign (target := (.Name (nm 3) ⟨20,16,20,17⟩)) (op := .Add) (value := (.Constant (.int 1) 0 ⟨20,21,20,22⟩)) (pos := ⟨20,16,20,22⟩)), (.While (test := (.Compare (left := (.Subscript (value := (.Name (nm 1) ⟨21,22,21,28⟩)) (slice := (.Name (nm 3) ⟨21,29,21,30⟩)) (pos := ⟨21,22,21,31⟩))) (ops := [.Eq]) (comparators := [(.Name (nm 7) ⟨21,35,21,36⟩)]) (pos := ⟨21,22,21,36⟩))) (body := [ (.AugAssign (target := (.Name (nm 3) ⟨22,20,22,21⟩)) (op := .Add) (value := (.Constant (.int 1) 0 ⟨22,25,22,26⟩)) (pos := ⟨22,20,22,26⟩))]) (orelse := []) (pos := ⟨21,16,22,26⟩))]) (orelse := [ (.AugAssign (target := (.Name (nm 2) ⟨24,16,24,17⟩)) (op := .Add) (value := (.Constant (.int 1) 0 ⟨24,21,24,22⟩)) (pos := ⟨24,16,24,22⟩)), sIn nm]) (pos := ⟨18,12,31,30⟩))]) (pos := ⟨13,12,31,30⟩))
noncomputable def sHd (nm : Nat → Str) : ExceptHandler := (.ExceptHandler (type := (some (.Name "IndexError" ⟨32,15,32,25⟩))) (name := none) (body := [ (.Expr (value := (.Call (func := (.Attribute (.Name (nm 4) ⟨33,12,33,19⟩) "extend" ⟨33,12,33,26⟩)) (args := [ (.Subscript (value := (.Name (nm 0) ⟨33,27,33,35⟩)) (slice := (.Slice (some (.Name (nm 2) ⟨33,36,33,37⟩)) none none ⟨33,36,33,38⟩)) (pos := ⟨33,27,33,39⟩))]) (keywords := []) (pos := ⟨33,12,33,40⟩))) (pos := ⟨33,12,33,40⟩)), (.Expr (value := (.Call (func := (.Attribute (.Name (nm 5) ⟨34,12,34,22⟩) "extend" ⟨34,12,34,29⟩)) (args := [ (.Subscript (value := (.Name (nm 1) ⟨34,30,34,36⟩)) (slice := (.Slice (some (.Name (nm 3) ⟨34,37,34,38⟩)) none none ⟨34,37,34,39⟩)) (pos := ⟨34,30,34,40⟩))]) (keywords := []) (pos := ⟨34,12,34,41⟩))) (pos := ⟨34,12,34,41⟩)), (.Break ⟨35,12,35,17⟩)]) (pos := ⟨32,8,35,17⟩))
noncomputable def sTry (nm : Nat → Str) : Stmt := (.Try (body := [ (.Assign (targets := [(.Name (nm 6) ⟨11,12,11,13⟩)]) (value := (.Subscript (value := (.Name (nm 0) ⟨11,16,11,24⟩)) (slice := (.Name (nm 2) ⟨11,25,11,26⟩)) (pos := ⟨11,16,11,27⟩))) (pos := ⟨11,12,11,27⟩)), (.Assign (targets := [(.Name (nm 7) ⟨12,12,12,13⟩)]) (value := (.Subscript (value := (.Name (nm 1) ⟨12,16,12,22⟩)) (slice := (.Name (nm 3) ⟨12,23,12,24⟩)) (pos := ⟨12,16,12,25⟩))) (pos := ⟨12,12,12,25⟩)), sIf nm]) (handlers := [ sHd nm]) (orelse := []) (finalbody := []) (pos := ⟨10,8,35,17⟩))
noncomputable def sAll (nm : Nat → Str) : List Stmt := [ (.Assign (targets := [(.Name (nm 2) ⟨6,4,6,5⟩), (.Name (nm 3) ⟨6,8,6,9⟩)]) (value := (.Constant (.int 0) 0 ⟨6,12,6,13⟩)) (pos := ⟨6,4,6,13⟩)), (.Assign (targets := [(.Name (nm 4) ⟨7,4,7,11⟩)]) (value := (.List [] ⟨7,14,7,16⟩)) (pos := ⟨7,4,7,16⟩)), (.Assign (targets := [(.Name (nm 5) ⟨8,4,8,14⟩)]) (value := (.List [] ⟨8,17,8,19⟩)) (pos := ⟨8,4,8,19⟩)), (.While (test := (.Constant (.bool true) 0 ⟨9,10,9,14⟩)) (body := [ sTry nm]) (orelse := []) (pos := ⟨9,4,35,17⟩)), (.Return (value := (some (.Tuple (elts := [(.Name (nm 4) ⟨36,12,36,19⟩), (.Name (nm 5) ⟨36,21,36,31⟩)]) (k := 0) (pos := ⟨36,11,36,32⟩)))) (pos := ⟨36,4,36,32⟩))]
section
variable {prog : Program} {w : World} {nm : Nat → Str} {base : Heap} {N : Nat} {A : Around} {fr : List Env} {env : Env} {sc : Scope} {B : Addr → Prop} {h₀ hs : Heap} {S : Sta} {s : Shared} {E : Value → Shared → Prop}
theorem Ix.back {A' A'' : Around} {e : Addr} {c : Value} (gn : Gn A fr base h₀ N env B) (x : Ix prog w nm fr env sc B hs s.heap S e c (rawInt env.locals))
  (k : ∀ h', Ix prog w nm fr env sc B hs h' S e c (rawInt env.locals) → E (.ref e) { s with heap := h' }) : notedBy (model prog w) A' env (cameBackBy (model prog w) A'' env E) (.ref e) s := by
 refine Ix.again gn x ?_
 obtain ⟨oe, vs, T, _, _, _, he, _, hd, h1', _⟩ := x.tr
 refine wpAny_bind (wpAny_field he hd h1' ?_)
 rw [if_neg (by simp)]
 rw [show env.frame = some env.locals from gn.frame]
 exact x.flight (some env.locals) gn fun h3 ix3 => k h3 ix3
theorem Ix.pass {A' : Around} {e : Addr} {c fl : Value} {what : String} {Q : Flow → Shared → Prop} (gn : Gn A fr base h₀ N env B) (x : Ix prog w nm fr env sc B hs s.heap S e c fl)
  (k : ∀ h', Ix prog w nm fr env sc B hs h' S e c (rawInt env.locals) → E (.ref e) { s with heap := h' }) : wpAny (model prog w) A' (PySem.passOn what (.ref e) env : Sem Flow) Q E s := by
 unfold PySem.passOn
 obtain ⟨oe, vs, T, _, _, _, he, _, hd, h1', _⟩ := x.tr
 refine wpAny_bind (wpAny_field he hd h1' ?_)
 rw [if_neg (by simp)]
 rw [show env.frame = some env.locals from gn.frame]
 refine wpAny_bind (m := setFlight _ _) (x.flight (some env.locals) gn fun h3 ix3 => wpAny_throw (k h3 ix3))
variable {mg mb : Str → Option Value}
theorem sIn_ok {A' : Around} {xs ys : List Str} {i j : Nat} {m u : List Str} {z : Str} {Q : Flow → Shared → Prop}
  (G : GlS nm base sc mg mb) (go : Go A fr base h₀ N env B true hs (fun _ => [])) (nc : ∀ a, Fm.at env (fun _ => True) a → a = env.locals) (x : Iv prog w nm fr env sc B hs s.heap S) (st : Stt xs ys i j m u S)
  (hfr : A'.frames = some (env :: fr)) (hh : A'.handled = none) (h6 : S 6 = some (.fr (.str z))) (h7 : S 7 = some (.fr (.str z)))
  (hx : xs.length ≤ 100) (hy : ys.length ≤ 100) (hi : i ≤ xs.length) (hj : j + 1 ≤ ys.length) (hxn : ∀ y, xs[i]? = some y → (y == z) = false) (hyn : ∀ y, ys[j + 1]? = some y → (y == z) = false)
  (hQ : ∀ h' tk S', Iv prog w nm fr env sc B hs h' S' → Stt xs ys i (j + 1) m u S' → Q .next (up s h' tk))
  (hE : ∀ h' tk S' e c, Ix prog w nm fr env sc B hs h' S' e c (rawInt env.locals) → Stt xs ys i (j + 1) m u S' → i = xs.length ∨ j + 1 = ys.length → E (.ref e) (up s h' tk)) :
  wpAny (model prog w) A' (exec (sIn nm) env) Q E s := by
 have hxc : i < xs.length ∨ i = xs.length := by omega
 have hyc : j + 1 < ys.length ∨ j + 1 = ys.length := by omega
 refine wpAny_Try_finally (wpAny_execs_cons ?_)
 rcases hxc with hxc | hxc
 ·refine (while_no go.gn x G.nmd st.x st.i h6 (List.getElem?_eq_getElem hxc) (by omega) (hxn _ (List.getElem?_eq_getElem hxc))).wpE fun tk1 hn1 => ?_
  refine wpAny_execs_nil (wpAny_execs_nil ?_)
  refine wpAny_execs_cons ((aug_ok (s := { s with toks := tk1 }) (PP := fun h' S' => Iv prog w nm fr env sc B hs h' S') go.gn x G.nmd st.j fun u' s' hs' ⟨W, ru⟩ => ?_).wpF fun h2 tk2 hn2 x2 => ?_)
  ·exact Iv.st go.gn (hs' ▸ x) G.inj (G.put 3 (by decide)) rfl (hs' ▸ ru)
  have st2 : Stt xs ys i (j + 1) m u (S.put 3 (.fr (.int ((j : Int) + 1)))) := st.putJ (j + 1)
  have h72 : (S.put 3 (.fr (.int ((j : Int) + 1)))) 7 = some (.fr (.str z)) := by exact (if_neg (by decide)).trans h7
  refine wpAny_execs_cons ?_
  rcases hyc with hyc | hyc
  ·refine (while_no (s := (up s h2 tk2)) go.gn x2 G.nmd st2.y st2.j h72 (List.getElem?_eq_getElem hyc) (by omega) (hyn _ (List.getElem?_eq_getElem hyc))).wpE fun tk3 hn3 => ?_
   exact wpAny_execs_nil (hQ _ _ _ x2 st2)
  ·refine while_out (s := (up s h2 tk2)) go.gn hfr (x2.cx (s := (up s h2 tk2)) go).ff go.frB x2 G.nmd st2.y st2.j hyc (by omega) (by rw [hh]; trivial) fun h3 tk3 e ix => ?_
   exact ix.back (s := (up s h3 tk3)) go.gn fun h4 ix4 => hE _ _ _ _ _ ix4 st2 (.inr hyc)
 ·refine while_out go.gn hfr (x.cx go).ff go.frB x G.nmd st.x st.i hxc (by omega) (by rw [hh]; trivial) fun h1 tk1 e ix => ?_
  rw [hh] at ix
  refine Ix.again (s := (up s h1 tk1)) go.gn ix ⟨ref_ne_byPass e, ?_⟩
  refine Ix.again (s := (up s h1 tk1)) go.gn ix ?_
  refine Ix.flight (s := (up s h1 tk1)) none go.gn ix fun h2 ix2 => ?_
  refine wpAny_execs_cons ((aug_ok (s := (up s h2 tk1)) (PP := fun h' S' => Ix prog w nm fr env sc B hs h' S' e .none .none) go.gn ix2.iv G.nmd st.j fun u' s' hs' ⟨W, ru⟩ => ?_).wpF fun h3 tk3 hn3 ix3 => ?_)
  ·exact Ix.st go.gn nc (hs' ▸ ix2) G.inj (G.put 3 (by decide)) rfl (hs' ▸ ru)
  have st2 : Stt xs ys i (j + 1) m u (S.put 3 (.fr (.int ((j : Int) + 1)))) := st.putJ (j + 1)
  have h72 : (S.put 3 (.fr (.int ((j : Int) + 1)))) 7 = some (.fr (.str z)) := by exact (if_neg (by decide)).trans h7
  refine wpAny_execs_cons ?_
  rcases hyc with hyc | hyc
  ·refine (while_no (s := (up s h3 tk3)) go.gn ix3.iv G.nmd st2.y st2.j h72 (List.getElem?_eq_getElem hyc) (by omega) (hyn _ (List.getElem?_eq_getElem hyc))).wpE fun tk4 hn4 => ?_
   refine wpAny_execs_nil ?_
   exact Ix.pass (s := (up s _ tk4)) go.gn ix3 fun h5 ix5 => hE _ _ _ _ _ ix5 st2 (.inl hxc)
  ·refine while_out (s := (up s h3 tk3)) go.gn hfr (ix3.iv.cx (s := (up s h3 tk3)) go).ff go.frB ix3.iv G.nmd st2.y st2.j hyc (by omega) ix3.noCtx fun h4 tk4 e2 ix4 => ?_
   exact ix4.back (s := (up s h4 tk4)) go.gn fun h5 ix5 => hE _ _ _ _ _ ix5 st2 (.inr hyc)
end
end
section
structure MgSt (xs ys T U : List Str) (i j : Nat) (m u : List Str) : Prop where
 hi : i ≤ xs.length
 hj : j ≤ ys.length
 hm : m.length ≤ i
 hu : u.length ≤ j
 ht : m ++ (mg (xs.drop i) (ys.drop j)).1 = T
 hv : u ++ (mg (xs.drop i) (ys.drop j)).2 = U
theorem mg_nil_left (ys : List Str) : mg [] ys = ([], ys) := by unfold mg; rfl
theorem mg_nil_right (xs : List Str) : mg xs [] = (xs, []) := by cases xs <;> (unfold mg; rfl)
section
variable {xs ys T U : List Str} {i j : Nat} {m u : List Str} {x y : Str}
theorem drop_at (h : xs[i]? = some x) : xs.drop i = x :: xs.drop (i + 1) := by
 obtain ⟨hi, e⟩ := List.getElem?_eq_some_iff.mp h
 rw [List.drop_eq_getElem_cons hi, e]
theorem MgSt.lt (g : MgSt xs ys T U i j m u) (hx : xs[i]? = some x) (hy : ys[j]? = some y) (h : ltS x y = true) : MgSt xs ys T U (i + 1) j (m ++ [x]) u := by
 have hi := (List.getElem?_eq_some_iff.mp hx).1
 have ht := g.ht
 have hv := g.hv
 rw [drop_at hx, drop_at hy] at ht hv
 unfold mg at ht hv
 rw [if_pos h, ← drop_at hy] at ht hv
 refine ⟨hi, g.hj, by rw [List.length_append]; exact Nat.succ_le_succ g.hm, g.hu, ?_, hv⟩
 rw [List.append_assoc]; exact ht
theorem MgSt.gt (g : MgSt xs ys T U i j m u) (hx : xs[i]? = some x) (hy : ys[j]? = some y) (h0 : ltS x y = false) (h : ltS y x = true) : MgSt xs ys T U i (j + 1) m (u ++ [y]) := by
 have hj := (List.getElem?_eq_some_iff.mp hy).1
 have ht := g.ht
 have hv := g.hv
 rw [drop_at hx, drop_at hy] at ht hv
 unfold mg at ht hv
 rw [if_neg (by rw [h0]; decide), if_pos h, ← drop_at hx] at ht hv
 refine ⟨g.hi, hj, g.hm, by rw [List.length_append]; exact Nat.succ_le_succ g.hu, ht, ?_⟩
 rw [List.append_assoc]; exact hv
theorem MgSt.eq (g : MgSt xs ys T U i j m u) (hx : xs[i]? = some x) (hy : ys[j]? = some y) (h0 : ltS x y = false) (h : ltS y x = false) : MgSt xs ys T U (i + 1) (j + 1) m u := by
 have hi := (List.getElem?_eq_some_iff.mp hx).1
 have hj := (List.getElem?_eq_some_iff.mp hy).1
 have ht := g.ht
 have hv := g.hv
 rw [drop_at hx, drop_at hy] at ht hv
 unfold mg at ht hv
 rw [if_neg (by rw [h0]; decide), if_neg (by rw [h]; decide)] at ht hv
 exact ⟨hi, hj, Nat.le_succ_of_le g.hm, Nat.le_succ_of_le g.hu, ht, hv⟩
theorem MgSt.end (g : MgSt xs ys T U i j m u) (h : i = xs.length ∨ j = ys.length) : m ++ xs.drop i = T ∧ u ++ ys.drop j = U := by
 have ht := g.ht
 have hv := g.hv
 rcases h with h | h
 ·have e : xs.drop i = [] := List.drop_eq_nil_of_le (by omega)
  rw [e] at ht hv ⊢
  rw [mg_nil_left] at ht hv
  exact ⟨ht, hv⟩
 ·have e : ys.drop j = [] := List.drop_eq_nil_of_le (by omega)
  rw [e] at ht hv ⊢
  rw [mg_nil_right] at ht hv
  exact ⟨ht, hv⟩
theorem rising_next : ∀ {xs : List Str} {i : Nat} {x y : Str}, rising xs = true → xs[i]? = some x → xs[i + 1]? = some y → (y == x) = false
 | [], _, _, _, _, h, _ => by simp at h
 | a :: r, 0, x, y, h, hx, hy => by
  simp at hx hy; subst hx
  have := (rising_all h).1 y (List.mem_of_getElem? hy)
  exact beq_false_of_ne fun e => ltS_ne this e.symm
 | a :: r, i + 1, x, y, h, hx, hy => by
  simp at hx hy
  exact rising_next (rising_all h).2 hx hy
end
section
variable {prog : Program} {w : World} {nm : Nat → Str} {base : Heap} {N : Nat} {A : Around} {fr : List Env} {env : Env} {sc : Scope} {B : Addr → Prop} {h₀ hs : Heap} {S : Sta} {s : Shared} {E : Value → Shared → Prop}
variable {mg' mb : Str → Option Value} {xs ys T U : List Str}
theorem put_get {S : Sta} {i : Nat} {sl : Slot} : S.put i sl i = some sl := if_pos rfl
theorem put_ne {S : Sta} {i k : Nat} {sl : Slot} (h : k ≠ i) : S.put i sl k = S k := if_neg h
theorem sIf_ok {A' : Around} {i j : Nat} {m u : List Str} {x y : Str} {Q : Flow → Shared → Prop}
  (G : GlS nm base sc mg' mb) (go : Go A fr base h₀ N env B true hs (fun _ => [])) (nc : ∀ a, Fm.at env (fun _ => True) a → a = env.locals) (iv : Iv prog w nm fr env sc B hs s.heap S) (st : Stt xs ys i j m u S) (g : MgSt xs ys T U i j m u)
  (hfr : A'.frames = some (env :: fr)) (hh : A'.handled = none) (h6 : S 6 = some (.fr (.str x))) (h7 : S 7 = some (.fr (.str y)))
  (hx : xs.length ≤ 100) (hy : ys.length ≤ 100) (rx : rising xs = true) (ry : rising ys = true) (hxi : xs[i]? = some x) (hyj : ys[j]? = some y)
  (hQ : ∀ h' tk S' i' j' m' u', Iv prog w nm fr env sc B hs h' S' → Stt xs ys i' j' m' u' S' → MgSt xs ys T U i' j' m' u' → i + j < i' + j' → Q .next (up s h' tk))
  (hE : ∀ h' tk S' i' j' m' u' e c, Ix prog w nm fr env sc B hs h' S' e c (rawInt env.locals) → Stt xs ys i' j' m' u' S' → MgSt xs ys T U i' j' m' u' → i' = xs.length ∨ j' = ys.length → E (.ref e) (up s h' tk)) :
  wpAny (model prog w) A' (exec (sIf nm) env) Q E s := by
 have hi := (List.getElem?_eq_some_iff.mp hxi).1
 have hj := (List.getElem?_eq_some_iff.mp hyj).1
 refine wpAny_If (wpAny_isTrue_Compare1 (iv.rdK go.gn G.nmd h6 fun v1 W1 tk1 hn1 r1 => ?_) rfl)
 refine Iv.rdK (s := { s with toks := tk1 }) go.gn iv G.nmd h7 fun v2 W2 tk2 hn2 r2 => ?_
 refine R.strE r1 fun t1 => ?_
 refine R.strE r2 fun t2 => ?_
 refine PyProof.Rows.lt_str (wpAny_truthy_bool ?_)
 cases h : ltS x y with
 | true =>
  have h' : decide (x.cps.toList < y.cps.toList) = true := h
  rw [if_pos h']
  have g2 := g.lt hxi hyj h
  refine wpAny_execs_cons ((app_ok (s := { s with toks := tk2 }) go.gn iv G.nmd st.m h6 rfl (by rw [List.length_map]; have := g.hm; omega)).wpF fun h3 tk3 hn3 iv3 => ?_)
  have em : m.map D.str ++ [.str x] = (m ++ [x]).map D.str := by rw [List.map_append]; rfl
  rw [em] at iv3
  have st3 := st.putM (m ++ [x])
  refine wpAny_execs_cons ((aug_ok (s := (up s h3 tk3)) (PP := fun h' S' => Iv prog w nm fr env sc B hs h' S') go.gn iv3 G.nmd st3.i fun u' s' hs' ⟨W, ru⟩ => ?_).wpF fun h4 tk4 hn4 iv4 => ?_)
  ·exact Iv.st go.gn (hs' ▸ iv3) G.inj (G.put 2 (by decide)) rfl (hs' ▸ ru)
  have st4 := st3.putI (i + 1)
  have h64 : ((S.put 4 (.li ((m ++ [x]).map .str))).put 2 (.fr (.int ((i : Int) + 1)))) 6 = some (.fr (.str x)) := by rw [put_ne (by decide), put_ne (by decide)]; exact h6
  refine wpAny_execs_cons ?_
  have hc : i + 1 < xs.length ∨ i + 1 = xs.length := by omega
  rcases hc with hc | hc
  ·refine (while_no (s := (up s h4 tk4)) go.gn iv4 G.nmd st4.x st4.i h64 (List.getElem?_eq_getElem hc) (by omega) (rising_next rx hxi (List.getElem?_eq_getElem hc))).wpE fun tk5 hn5 => ?_
   exact wpAny_execs_nil (hQ _ _ _ _ _ _ _ iv4 st4 g2 (by omega))
  ·exact while_out (s := (up s h4 tk4)) go.gn hfr (iv4.cx (s := (up s h4 tk4)) go).ff go.frB iv4 G.nmd st4.x st4.i hc (by omega) (by rw [hh]; trivial) fun h5 tk5 e ix => hE _ _ _ _ _ _ _ _ _ ix st4 g2 (.inl hc)
 | false =>
  have h' : decide (x.cps.toList < y.cps.toList) = false := h
  rw [if_neg (by rw [h']; decide)]
  refine wpAny_execs_cons (wpAny_If (wpAny_isTrue_Compare1 (Iv.rdK (s := { s with toks := tk2 }) go.gn iv G.nmd h6 fun v1 W1 tk1 hn1 r1 => ?_) rfl))
  refine Iv.rdK (s := { s with toks := tk1 }) go.gn iv G.nmd h7 fun v2 W2 tk2 hn2 r2 => ?_
  refine R.strE r1 fun t1 => ?_
  refine R.strE r2 fun t2 => ?_
  refine P.gt_str (wpAny_truthy_bool ?_)
  cases hg : ltS y x with
  | true =>
   have h' : decide (y.cps.toList < x.cps.toList) = true := hg
   rw [if_pos h']
   have g2 := g.gt hxi hyj h hg
   refine wpAny_execs_cons ((app_ok (s := { s with toks := tk2 }) go.gn iv G.nmd st.u h7 rfl (by rw [List.length_map]; have := g.hu; omega)).wpF fun h3 tk3 hn3 iv3 => ?_)
   have em : u.map D.str ++ [.str y] = (u ++ [y]).map D.str := by rw [List.map_append]; rfl
   rw [em] at iv3
   have st3 := st.putU (u ++ [y])
   refine wpAny_execs_cons ((aug_ok (s := (up s h3 tk3)) (PP := fun h' S' => Iv prog w nm fr env sc B hs h' S') go.gn iv3 G.nmd st3.j fun u' s' hs' ⟨W, ru⟩ => ?_).wpF fun h4 tk4 hn4 iv4 => ?_)
   ·exact Iv.st go.gn (hs' ▸ iv3) G.inj (G.put 3 (by decide)) rfl (hs' ▸ ru)
   have st4 := st3.putJ (j + 1)
   have h74 : ((S.put 5 (.li ((u ++ [y]).map .str))).put 3 (.fr (.int ((j : Int) + 1)))) 7 = some (.fr (.str y)) := by rw [put_ne (by decide), put_ne (by decide)]; exact h7
   refine wpAny_execs_cons ?_
   have hc : j + 1 < ys.length ∨ j + 1 = ys.length := by omega
   rcases hc with hc | hc
   ·refine (while_no (s := (up s h4 tk4)) go.gn iv4 G.nmd st4.y st4.j h74 (List.getElem?_eq_getElem hc) (by omega) (rising_next ry hyj (List.getElem?_eq_getElem hc))).wpE fun tk5 hn5 => ?_
    exact wpAny_execs_nil (wpAny_execs_nil (hQ _ _ _ _ _ _ _ iv4 st4 g2 (by omega)))
   ·exact while_out (s := (up s h4 tk4)) go.gn hfr (iv4.cx (s := (up s h4 tk4)) go).ff go.frB iv4 G.nmd st4.y st4.j hc (by omega) (by rw [hh]; trivial) fun h5 tk5 e ix => hE _ _ _ _ _ _ _ _ _ ix st4 g2 (.inr hc)
  | false =>
   have h' : decide (y.cps.toList < x.cps.toList) = false := hg
   rw [if_neg (by rw [h']; decide)]
   have g2 := g.eq hxi hyj h hg
   have e : x = y := leS_antisymm (by unfold leS; exact Bool.eq_false_iff.mpr (Bool.eq_false_iff.mp hg)) (by unfold leS; exact Bool.eq_false_iff.mpr (Bool.eq_false_iff.mp h))
   subst e
   refine wpAny_execs_cons ((aug_ok (s := { s with toks := tk2 }) (PP := fun h' S' => Iv prog w nm fr env sc B hs h' S') go.gn iv G.nmd st.i fun u' s' hs' ⟨W, ru⟩ => ?_).wpF fun h4 tk4 hn4 iv4 => ?_)
   ·exact Iv.st go.gn (hs' ▸ iv) G.inj (G.put 2 (by decide)) rfl (hs' ▸ ru)
   have st4 := st.putI (i + 1)
   have h64 : (S.put 2 (.fr (.int ((i : Int) + 1)))) 6 = some (.fr (.str x)) := by rw [put_ne (by decide)]; exact h6
   have h74 : (S.put 2 (.fr (.int ((i : Int) + 1)))) 7 = some (.fr (.str x)) := by rw [put_ne (by decide)]; exact h7
   refine wpAny_execs_cons ?_
   refine sIn_ok (s := (up s h4 tk4)) G go nc iv4 st4 hfr hh h64 h74 hx hy hi hj (fun z hz => rising_next rx hxi hz) (fun z hz => rising_next ry hyj hz) (fun h5 tk5 S5 iv5 st5 => ?_) fun h5 tk5 S5 e c ix5 st5 hor => ?_
   ·exact wpAny_execs_nil (wpAny_execs_nil (hQ _ _ _ _ _ _ _ iv5 st5 g2 (by omega)))
   ·exact hE _ _ _ _ _ _ _ _ _ ix5 st5 g2 hor
end
end
section
section
variable {prog : Program} {w : World} {nm : Nat → Str} {base : Heap} {N : Nat} {A : Around} {fr : List Env} {env : Env} {sc : Scope} {B : Addr → Prop} {h₀ hs : Heap} {S : Sta} {s : Shared} {E : Value → Shared → Prop}
variable {mg' mb : Str → Option Value} {xs ys T U : List Str}
theorem sTry_ok {A' : Around} {i j : Nat} {m u : List Str} {Q : Flow → Shared → Prop}
  (G : GlS nm base sc mg' mb) (go : Go A fr base h₀ N env B true hs (fun _ => [])) (nc : ∀ a, Fm.at env (fun _ => True) a → a = env.locals) (iv : Iv prog w nm fr env sc B hs s.heap S) (st : Stt xs ys i j m u S) (g : MgSt xs ys T U i j m u)
  (hfr : A'.frames = some (env :: fr)) (hh : A'.handled = none)
  (hx : xs.length ≤ 100) (hy : ys.length ≤ 100) (rx : rising xs = true) (ry : rising ys = true)
  (hQ : ∀ h' tk S' i' j' m' u', Iv prog w nm fr env sc B hs h' S' → Stt xs ys i' j' m' u' S' → MgSt xs ys T U i' j' m' u' → i + j < i' + j' → Q .next (up s h' tk))
  (hB : ∀ h' tk S', Iv prog w nm fr env sc B hs h' S' → S' 4 = some (.li (T.map .str)) → S' 5 = some (.li (U.map .str)) → Q .brk (up s h' tk)) :
  wpAny (model prog w) A' (exec (sTry nm) env) Q E s := by
 have caught : ∀ h' tk S' i' j' m' u' e c fl, Ix prog w nm fr env sc B hs h' S' e c fl → Stt xs ys i' j' m' u' S' → MgSt xs ys T U i' j' m' u' → i' = xs.length ∨ j' = ys.length →
   wpAny (model prog w) A' (setFlight (.ref e) none) (fun _ s₃ => wpAny (model prog w) A' (handleBy (.ref e) env [sHd nm]) Q E s₃) E (up s h' tk) := by
  intro h' tk S' i' j' m' u' e c fl ix st' g' hor
  refine ix.flight (s := (up s h' tk)) none go.gn fun h1 ix1 => ?_
  refine (handler_ok (s := (up s h1 tk)) G go ix1 st' hx hy (by have := g'.hm; have := g'.hi; omega) (by have := g'.hu; have := g'.hj; omega) rfl rfl).wp fun f h2 tk2 hn2 q => ?_
  obtain ⟨rfl, S2, iv2, e4, e5⟩ := q
  obtain ⟨a, b⟩ := g'.end hor
  rw [a] at e4; rw [b] at e5
  exact hB _ _ _ iv2 e4 e5
 have fresh : ∀ h₁ (tk₁ : Nat) S₁ i' j' m' u' h' tk e, Iv prog w nm fr env sc B hs h₁ S₁ → Stt xs ys i' j' m' u' S₁ → MgSt xs ys T U i' j' m' u' → i' = xs.length ∨ j' = ys.length → XN h₁ h' e (ctxOf A'.handled) →
   wpAny (model prog w) A' (noteFrame (.ref e) env) (fun _ s₂ => wpAny (model prog w) A' (setFlight (.ref e) none) (fun _ s₃ => wpAny (model prog w) A' (handleBy (.ref e) env [sHd nm]) Q E s₃) E s₂) E (up s h' tk) := by
  intro h₁ tk₁ S₁ i' j' m' u' h' tk e iv₁ st₁ g₁ hor xn
  exact Iv.note (s := (up s h₁ tk₁)) go.gn hfr (iv₁.cx (s := (up s h₁ tk₁)) go).ff go.frB iv₁ xn fun h2 ix => caught _ _ _ _ _ _ _ _ _ _ ix st₁ g₁ hor
 have hi := g.hi
 have hj := g.hj
 refine wpAny_Try_except (wpAny_execs_cons ?_)
 have hxc : i < xs.length ∨ i = xs.length := by omega
 rcases hxc with hxc | hxc
 ·have hxi := List.getElem?_eq_getElem hxc
  refine (asg_in go.gn iv G.nmd G.inj (G.put 6 (by decide)) st.x st.i hxi (by omega)).wpF fun h1 tk1 hn1 iv1 => ?_
  have st1 := st.put (k := 6) (by omega) (.fr (.str xs[i]))
  refine wpAny_execs_cons ?_
  have hyc : j < ys.length ∨ j = ys.length := by omega
  rcases hyc with hyc | hyc
  ·have hyj := List.getElem?_eq_getElem hyc
   refine (asg_in (s := (up s h1 tk1)) go.gn iv1 G.nmd G.inj (G.put 7 (by decide)) st1.y st1.j hyj (by omega)).wpF fun h2 tk2 hn2 iv2 => ?_
   have st2 := st1.put (k := 7) (by omega) (.fr (.str ys[j]))
   refine wpAny_execs_cons (sIf_ok (s := (up s h2 tk2)) G go nc iv2 st2 g hfr hh (by rw [put_ne (by decide), put_get]) put_get hx hy rx ry hxi hyj (fun h3 tk3 S3 i3 j3 m3 u3 iv3 st3 g3 hlt => ?_) fun h3 tk3 S3 i3 j3 m3 u3 e c ix3 st3 g3 hor => ?_)
   ·exact wpAny_execs_nil (wpAny_execs_nil (hQ _ _ _ _ _ _ _ iv3 st3 g3 hlt))
   ·exact Ix.again (s := (up s h3 tk3)) go.gn ix3 (caught _ _ _ _ _ _ _ _ _ _ ix3 st3 g3 hor)
  ·exact asg_out (s := (up s h1 tk1)) go.gn iv1 G.nmd st1.y st1.j hyc (by omega) (by rw [hh]; trivial) fun h' tk e xn => fresh _ tk1 _ _ _ _ _ _ _ _ iv1 st1 g (.inr hyc) xn
 ·exact asg_out go.gn iv G.nmd st.x st.i hxc (by omega) (by rw [hh]; trivial) fun h' tk e xn => fresh _ s.toks _ _ _ _ _ _ _ _ iv st g (.inl hxc) xn
theorem sLoop_ok {A' : Around} {p p2 : Pos} {i j : Nat} {m u : List Str}
  (G : GlS nm base sc mg' mb) (go : Go A fr base h₀ N env B true hs (fun _ => [])) (nc : ∀ a, Fm.at env (fun _ => True) a → a = env.locals) (iv : Iv prog w nm fr env sc B hs s.heap S) (st : Stt xs ys i j m u S) (g : MgSt xs ys T U i j m u)
  (hfr : A'.frames = some (env :: fr)) (hh : A'.handled = none)
  (hx : xs.length ≤ 100) (hy : ys.length ≤ 100) (rx : rising xs = true) (ry : rising ys = true) :
  Ok (model prog w) A' (exec (.While (.Constant (.bool true) 0 p) [sTry nm] [] p2) env) s (fun f h' => f = .next ∧ ∃ S', Iv prog w nm fr env sc B hs h' S' ∧ S' 4 = some (.li (T.map .str)) ∧ S' 5 = some (.li (U.map .str))) := by
 refine wpAny_While (codeAny_whileLoop (fun n s' => ∃ h tk S i j m u, s' = (up s h tk) ∧ Iv prog w nm fr env sc B hs h S ∧ Stt xs ys i j m u S ∧ MgSt xs ys T U i j m u ∧ n + (i + j) = xs.length + ys.length) ?_ (xs.length + ys.length - (i + j)) ?_)
 ·rintro n s' ⟨h, tk, S, i, j, m, u, rfl, iv, st, g, hn⟩
  refine wpAny_isTrue_value (wpAny_Constant_bool (wpAny_truthy_bool ?_))
  rw [if_pos rfl]
  refine wpAny_execs_cons (sTry_ok (s := (up s h tk)) G go nc iv st g hfr hh hx hy rx ry (fun h' tk' S' i' j' m' u' iv' st' g' hlt => ?_) fun h' tk' S' iv' e4 e5 => ?_)
  ·have := g'.hi
   have := g'.hj
   exact wpAny_execs_nil ⟨xs.length + ys.length - (i' + j'), by omega, h', tk', S', i', j', m', u', rfl, iv', st', g', by omega⟩
  ·exact ⟨_, _, rfl, rfl, S', iv', e4, e5⟩
 ·have := g.hi
  have := g.hj
  exact ⟨s.heap, s.toks, S, i, j, m, u, rfl, iv, st, g, by omega⟩
end
end
section
section
variable {prog : Program} {w : World} {nm fn : Nat → Str} {base : Heap} {N : Nat} {A : Around} {fr : List Env} {env : Env} {sc : Scope} {B : Addr → Prop} {h₀ hs : Heap} {S : Sta} {s : Shared} {E : Value → Shared → Prop}
variable {mg' mb : Str → Option Value} {xs ys : List Str}
theorem Iv.own {i : Nat} {pi p pe : Pos} (am : Am prog w nm fn [] base N) (go : Go A fr base h₀ N env B true hs (fun _ => [])) (iv : Iv prog w nm fr env sc B hs s.heap S) (tk : 0 ≤ s.toks) (hp : putOk sc (nm i) = true) :
  Ok (model prog w) (A.deeper env) (exec (.Assign [.Name (nm i) pi] (.List [] pe) p) env) s (fun f h' => f = .next ∧ Iv prog w nm fr env sc B hs h' (S.put i (.li []))) := by
 obtain ⟨B', σ, ad, hB, hN, y, m⟩ := iv
 have go' := go.move m
 have go2 : Go A fr base h₀ N env B' true s.heap ad := ⟨go'.gn.grow hB, go'.keep, go'.nw, go'.fmN⟩
 have he : exS nm fn [] sc true (5 + 1) (.own i pi (.list .nil pe) p) S = some (.next, S.put i (.li [])) := by
  show (if (putK nm sc i && true) = true then some (Fl.next, S.put i (.li [])) else none) = _
  rw [show putK nm sc i = true from hp]; rfl
 refine (ex_own am he go2 y tk).mono fun f h' q => ?_
 obtain ⟨σ', ad', z, mv, fo⟩ := q
 cases fo
 exact ⟨rfl, B', σ', ad', hB, hN, z, m.trans mv⟩
theorem sAll_ok {σ : Str → Option Value}
  (G : GlS nm base sc mg' mb) (am : Am prog w nm fn [] base N) (go : Go A fr base h₀ N env B true s.heap (fun _ => [])) (x : SI prog w nm env sc B s.heap S σ (fun _ => [])) (tk : 0 ≤ s.toks)
  (h0 : S 0 = some (.fr (.lst (xs.map .str)))) (h1 : S 1 = some (.fr (.lst (ys.map .str)))) (hc : ∀ x ∈ sc.names, x.2 ≠ .cell)
  (hx : xs.length ≤ 100) (hy : ys.length ≤ 100) (rx : rising xs = true) (ry : rising ys = true) :
  Ok (model prog w) (A.deeper env) (execs (sAll nm) env) s (fun f h' => ∃ S', ExP prog w nm true fr env sc B s.heap (fun _ => []) (.ret (.tup [.lst ((lessS xs ys).map .str), .lst ((lessS ys xs).map .str)])) S' f h') := by
 have nc : ∀ a, Fm.at env (fun _ => True) a → a = env.locals := fun a q => by
  rcases q with q | ⟨y, _, hk, _⟩
  ·exact q
  ·unfold Env.kindOf at hk
   rw [x.sc] at hk
   exact absurd rfl (hc _ (mem_of_lookup hk))
 have iv : Iv prog w nm fr env sc B s.heap s.heap S := ⟨B, σ, _, fun _ q => q, fun _ q => .inl q, x, Mv.refl⟩
 have hd := go.gn.cx.hd
 refine wpAny_execs_cons (wpAny_Assign_two (wpAny_Constant_int ?_))
 refine wpAny_assign_Name ((Iv.st (s := { s with toks := s.toks + 1 }) go.gn iv G.inj (G.put 2 (by decide)) rfl (R.int (W := fun _ => False) 0 _)).wp fun _ h2 tk2 hn2 iv2 => ?_)
 refine wpAny_assign_Name ((Iv.st (s := (up s h2 tk2)) go.gn iv2 G.inj (G.put 3 (by decide)) rfl (R.int (W := fun _ => False) 0 _)).wp fun _ h3 tk3 hn3 iv3 => ?_)
 have t3 : 0 ≤ tk3 := by have : s.toks + 1 ≤ tk2 := hn2; have : tk2 ≤ tk3 := hn3; omega
 refine wpAny_execs_cons ((Iv.own (s := (up s h3 tk3)) am go iv3 t3 (G.put 4 (by decide))).wpF fun h4 tk4 hn4 iv4 => ?_)
 have t4 : 0 ≤ tk4 := Nat.le_trans t3 hn4
 refine wpAny_execs_cons ((Iv.own (s := (up s h4 tk4)) am go iv4 t4 (G.put 5 (by decide))).wpF fun h5 tk5 hn5 iv5 => ?_)
 have t5 : 0 ≤ tk5 := Nat.le_trans t4 hn5
 have st : Stt xs ys 0 0 [] [] ((((S.put 2 (.fr (.int 0))).put 3 (.fr (.int 0))).put 4 (.li [])).put 5 (.li [])) := by
  constructor
  ·rw [put_ne (by decide), put_ne (by decide), put_ne (by decide), put_ne (by decide)]; exact h0
  ·rw [put_ne (by decide), put_ne (by decide), put_ne (by decide), put_ne (by decide)]; exact h1
  ·rw [put_ne (by decide), put_ne (by decide), put_ne (by decide), put_get]; rfl
  ·rw [put_ne (by decide), put_ne (by decide), put_get]; rfl
  ·rw [put_ne (by decide), put_get]; rfl
  ·rw [put_get]; rfl
 have g : MgSt xs ys (lessS xs ys) (lessS ys xs) 0 0 [] [] := by
  have := mg_eq xs ys rx ry
  refine ⟨Nat.zero_le _, Nat.zero_le _, Nat.le_refl _, Nat.le_refl _, ?_, ?_⟩ <;> rw [List.drop_zero, List.drop_zero, this, List.nil_append]
 refine wpAny_execs_cons ((sLoop_ok (s := (up s h5 tk5)) G go nc iv5 st g (Around.frames_deeper go.gn.cx.frs) hd hx hy rx ry).wp fun f h6 tk6 hn6 q => ?_)
 obtain ⟨rfl, S6, iv6, e4, e5⟩ := q
 have t6 : 0 ≤ tk6 := Nat.le_trans t5 hn6
 obtain ⟨B', σ6, ad6, hB, hN, y, m⟩ := iv6
 obtain ⟨y1, m1⟩ := freeze (tp := true) (fr := fr) (s := (up s h6 tk6)) y e4
 have e5' : (S6.put 4 (.fr (Slot.li ((lessS xs ys).map .str)).d)) 5 = some (.li ((lessS ys xs).map .str)) := by rw [put_ne (by decide)]; exact e5
 obtain ⟨y2, m2⟩ := freeze (tp := true) (fr := fr) (s := (up s h6 tk6)) y1 e5'
 have mm := (m.trans m1).trans m2
 have go' := go.move mm
 have go2 : Go A fr base h₀ N env B' true h6 _ := ⟨go'.gn.grow hB, go'.keep, go'.nw, go'.fmN⟩
 have he : exS nm fn [] sc true (5 + 1) (.ret (.tup (.cons (.var 4 ⟨36,12,36,19⟩) (.cons (.var 5 ⟨36,21,36,31⟩) .nil)) 0 ⟨36,11,36,32⟩) ⟨36,4,36,32⟩) ((S6.put 4 (.fr (Slot.li ((lessS xs ys).map .str)).d)).put 5 (.fr (Slot.li ((lessS ys xs).map .str)).d)) =
   some (.ret (.tup [.lst ((lessS xs ys).map .str), .lst ((lessS ys xs).map .str)]), ((S6.put 4 (.fr (Slot.li ((lessS xs ys).map .str)).d)).put 5 (.fr (Slot.li ((lessS ys xs).map .str)).d))) := by
  rfl
 refine wpAny_execs_cons ((ex_ret (s := (up s h6 tk6)) am he go2 y2 t6).wp fun f h7 tk7 hn7 q => ?_)
 obtain ⟨σ7, ad7, z, mv, fo⟩ := q
 cases fo with
 | ret r =>
  refine ⟨_, _, rfl, _, σ7, ad7, z.shrink hB, mm.trans mv, .ret (r.mono (fun _ _ _ e => e) fun a q => .inl (q.imp (hB a) id))⟩
end
noncomputable def sTbl : List Str := [Str.ofString "expected", Str.ofString "actual", Str.ofString "i", Str.ofString "j", Str.ofString "missing", Str.ofString "unexpected", Str.ofString "e", Str.ofString "a"]
noncomputable def sNm : Nat → Str := nmOf sTbl
theorem sNm_inj : ∀ i j, sNm i = sNm j → i = j := nmOf_inj (by decide +kernel) (by decide +kernel)
theorem sNm_nmd : ∀ i, (sNm i == "__debug__") = false ∧ (sNm i == "__classdict__") = false := fun i => ⟨nmOf_ne (by decide +kernel) (by decide +kernel) i, nmOf_ne (by decide +kernel) (by decide +kernel) i⟩
section
variable {prog : Program} {w : World} {base : Heap} {mg' mb : Str → Option Value} {nm fn : Nat → Str}
theorem bStr {δ : Type} {A B : Option (List Str)} {f : List Str → List Str → Option δ} {d : δ} {G : Prop} (h : (match A, B with | some x, some y => f x y | _, _ => none) = some d) (k : ∀ x y, A = some x → B = some y → f x y = some d → G) : G := by
 cases A with
 | none => exact optE h
 | some x => cases B with
  | none => exact optE h
  | some y => exact k x y rfl rfl h
@[elab_as_elim] theorem sldGE {ds : List D} {r : D} {m : List D → D → Prop} (h : sldG ds = some r) (k : ∀ xs ys : List Str, rising xs = true → rising ys = true → xs.length ≤ 100 → ys.length ≤ 100 → m [.lst (xs.map .str), .lst (ys.map .str)] (.tup [.lst ((lessS xs ys).map .str), .lst ((lessS ys xs).map .str)])) : m ds r := by
 cases ds with
 | nil => exact optE h
 | cons a ds =>
 cases a with
 | lst a =>
  cases ds with
  | nil => exact optE h
  | cons b ds =>
  cases b with
  | lst b =>
   cases ds with
   | nil =>
    refine bStr h fun xs ys h1 h2 h => ?_
    rw [strsOf_eq h1, strsOf_eq h2]
    exact ifE h fun c h => someE h (k xs ys (I.and3 c).1 (I.and3 c).2.1 (of_decide_eq_true (I.and3 c).2.2).1 (of_decide_eq_true (I.and3 c).2.2).2)
   | cons _ _ => exact optE h
  | _ => exact optE h
 | _ => exact optE h
theorem sld_con {d : DefRec} {fa : Addr} {o : Obj} {pm code doc : Value} (G : Glb nm fn base mg' mb) (ie : mg' "IndexError" = none ∧ mb "IndexError" = some (.type "IndexError"))
  (ho : base.get? fa = some o) (hod : o.data = .func (docDef d.name d.params d.body d.scope pm code doc)) (hcd : base.CodeRec code d.name)
  (hb : d.body = sAll sNm) (hk : d.scope.kind = .function) (hnd : (d.scope.names.map (·.1)).Nodup) (hfr : ∀ x ∈ d.scope.names, x.2 ≠ .free ∧ x.2 ≠ .cell) (hco : d.scope.isCoroutine = false) (hge : d.scope.isGenerator = false)
  (hput : ∀ k, k < 8 → putOk d.scope (sNm k) = true) (hisg : isG d.scope "IndexError" = true)
  (hbind : ∀ (pm code doc : Value) (us : List Value), us.length = 2 → bindArgs (docDef d.name d.params d.body d.scope pm code doc) ⟨us, []⟩ = pure (([0, 1].map sNm).zip us)) : Con prog w base sldFE fa := by
 have am : Am prog w sNm fn [] base 5 := ⟨sNm_nmd, sNm_inj, G.fnd, fun b => ⟨mg', mb, G.g, G.b, G.bi b⟩, ⟨mg', mb, G.g, G.b, G.isS⟩, ⟨mg', mb, G.g, G.b, G.isI⟩, ⟨mg', mb, G.g, G.b, G.st⟩, ⟨mg', mb, G.g, G.b, G.by'⟩, mg', G.g, fun f fe h => optE h⟩
 have Gs : GlS sNm base d.scope mg' mb := ⟨sNm_nmd, sNm_inj, G.g, G.b, ie, hisg, hput⟩
 have F : Fun prog w sNm fn d.name d.params d.body d.scope (rawsOf d.body) [0, 1] (pdN 2) :=
  ⟨rawsOf_py _ _ _, by decide, by decide +kernel, hk, hnd, fun x hx => (hfr x hx).1, fun i hi => hput i (by simp at hi; omega), hco, hge, fun pm code doc => bind_plain 2 rfl (hbind pm code doc)⟩
 refine con_gen (N := 5) F ho hod hcd G.lim rfl fun ds r hg => ?_
 refine sldGE hg fun xs ys e1 e2 e3 e4 => ?_
 refine ⟨[.lst (xs.map .str), .lst (ys.map .str)], rfl, rfl, fun A fr env B h₀ s σ go x tk => ?_⟩
 rw [hb]
 exact sAll_ok Gs am go x tk rfl rfl (fun y hy => (hfr y hy).2) e3 e4 e1 e2
end
end
section
namespace L1
abbrev pw : Program := PySem.Challenge.pw_rt0064_01
noncomputable def tbl : List Str := [Str.ofString "path", Str.ofString "kind", Str.ofString "a", Str.ofString "p", Str.ofString "sep", Str.ofString "b", Str.ofString "i", Str.ofString "head", Str.ofString "text", Str.ofString "script", Str.ofString "cells", Str.ofString "k", Str.ofString "x", Str.ofString "pool", Str.ofString "texts", Str.ofString "pairs", Str.ofString "m", Str.ofString "pair", Str.ofString "place", Str.ofString "near", Str.ofString "forms", Str.ofString "sign", Str.ofString "way", Str.ofString "names", Str.ofString "ways", Str.ofString "known", Str.ofString "paths", Str.ofString "seen", Str.ofString "one", Str.ofString "left", Str.ofString "count", Str.ofString "alone", Str.ofString "paired", Str.ofString "whole", Str.ofString "above", Str.ofString "told", Str.ofString "ends"]
noncomputable def sc0 : Scope := ⟨.function, [(".0", .local), ("k", .local), ("cells", .free), ("pool", .free)], false, false, []⟩
noncomputable def sc1 : Scope := ⟨.function, [(".0", .local), ("k", .local), ("m", .local), ("range", .globalImplicit)], false, false, []⟩
noncomputable def sc2 : Scope := ⟨.function, [(".0", .local), ("place", .local), ("pair", .local), ("cells", .free)], false, false, []⟩
noncomputable def sc3 : Scope := ⟨.function, [(".0", .local), ("m", .local), ("k", .free), ("pairs", .free)], false, false, []⟩
noncomputable def sc4 : Scope := ⟨.function, [(".0", .local), ("k", .cell), ("range", .globalImplicit), ("pairs", .free)], false, false, []⟩
noncomputable def sc5 : Scope := ⟨.function, [(".0", .local), ("sign", .local), ("forms", .free), ("kind", .free)], false, false, []⟩
noncomputable def sc6 : Scope := ⟨.function, [(".0", .local), ("k", .local), ("names", .free)], false, false, []⟩
noncomputable def sc7 : Scope := ⟨.function, [(".0", .local), ("m", .local), ("names", .free)], false, false, []⟩
noncomputable def sc8 : Scope := ⟨.function, [(".0", .local), ("k", .local), ("sorted", .globalImplicit), ("names", .free), ("near", .free)], false, false, []⟩
noncomputable def sc9 : Scope := ⟨.function, [(".0", .local), ("m", .local), ("k", .free)], false, false, []⟩
noncomputable def sc10 : Scope := ⟨.function, [(".0", .local), ("path", .local)], false, false, []⟩
noncomputable def sc11 : Scope := ⟨.function, [(".0", .local), ("text", .local), ("_law_written", .globalImplicit), ("kind", .free)], false, false, []⟩
noncomputable def sc12 : Scope := ⟨.function, [(".0", .local), ("text", .local), ("_law_told", .globalImplicit), ("kind", .free)], false, false, []⟩
noncomputable def sc13 : Scope := ⟨.function, [(".0", .local), ("path", .local), ("basename", .globalImplicit)], false, false, []⟩
noncomputable def sc14 : Scope := ⟨.function, [(".0", .local), ("k", .local), ("ends", .free), ("told", .free)], false, false, []⟩
noncomputable def bFfspath : Bl := (.cons (.asg 1 ⟨69,4,69,8⟩ (.bi .type ⟨69,11,69,15⟩ (.cons (.var 0 ⟨69,16,69,20⟩) .nil) ⟨69,11,69,21⟩) ⟨69,4,69,21⟩)
 (.cons (.ite (.isSB (.var 1 ⟨70,18,70,22⟩) ⟨70,7,70,17⟩ ⟨70,25,70,28⟩ ⟨70,30,70,35⟩ 0 ⟨70,24,70,36⟩ ⟨70,7,70,37⟩) (.cons (.ret (.var 0 ⟨71,15,71,19⟩) ⟨71,8,71,19⟩)
 .nil) .nil ⟨70,4,71,19⟩)
 (rawsOf ((bodyOf pw "fspath").drop 2))))
noncomputable def pFfspath : List Nat := [0]
noncomputable def bF_get_sep : Bl := (.cons (.ite (.isB (.var 0 ⟨98,18,98,22⟩) ⟨98,7,98,17⟩ ⟨98,24,98,29⟩ ⟨98,7,98,30⟩) (.cons (.raw (.Return (some (.Constant (.bytes [47]) 0 ⟨99,15,99,19⟩)) ⟨99,8,99,19⟩))
 .nil) (.cons (.ret (.str "/" 0 ⟨101,15,101,18⟩) ⟨101,8,101,18⟩)
 .nil) ⟨98,4,101,18⟩)
 .nil)
noncomputable def pF_get_sep : List Nat := [0]
noncomputable def bFjoin : Bl := (.cons (.asg 2 ⟨103,4,103,5⟩ (.call 0 ⟨103,8,103,14⟩ (.cons (.var 2 ⟨103,15,103,16⟩) .nil) ⟨103,8,103,17⟩) ⟨103,4,103,17⟩)
 (.cons (.asg 4 ⟨104,4,104,7⟩ (.call 1 ⟨104,10,104,18⟩ (.cons (.var 2 ⟨104,19,104,20⟩) .nil) ⟨104,10,104,21⟩) ⟨104,4,104,21⟩)
 (.cons (.asg 0 ⟨105,4,105,8⟩ (.var 2 ⟨105,11,105,12⟩) ⟨105,4,105,12⟩)
 (.cons (.tri (.cons (.for (.one 5 ⟨107,12,107,13⟩) (.var 3 ⟨107,17,107,18⟩) (.cons (.asg 5 ⟨108,12,108,13⟩ (.call 0 ⟨108,16,108,22⟩ (.cons (.var 5 ⟨108,23,108,24⟩) .nil) ⟨108,16,108,25⟩) ⟨108,12,108,25⟩)
 (.cons (.ite (.or (.meth .startswith (.var 5 ⟨109,15,109,16⟩) ⟨109,15,109,27⟩ (.cons (.var 4 ⟨109,28,109,31⟩) .nil) ⟨109,15,109,32⟩) (.not (.var 0 ⟨109,40,109,44⟩) ⟨109,36,109,44⟩) ⟨109,15,109,44⟩) (.cons (.asg 0 ⟨110,16,110,20⟩ (.var 5 ⟨110,23,110,24⟩) ⟨110,16,110,24⟩)
 .nil) (.cons (.ite (.meth .endswith (.var 0 ⟨111,17,111,21⟩) ⟨111,17,111,30⟩ (.cons (.var 4 ⟨111,31,111,34⟩) .nil) ⟨111,17,111,35⟩) (.cons (.aug 0 ⟨112,16,112,20⟩ .add (.var 5 ⟨112,24,112,25⟩) ⟨112,16,112,25⟩)
 .nil) (.cons (.aug 0 ⟨114,16,114,20⟩ .add (.bin .add (.var 4 ⟨114,24,114,27⟩) (.var 5 ⟨114,30,114,31⟩) ⟨114,24,114,31⟩) ⟨114,16,114,31⟩)
 .nil) ⟨111,12,114,31⟩)
 .nil) ⟨109,12,114,31⟩)
 .nil)) ⟨107,8,114,31⟩)
 .nil) (hdOf pw "join") (htOf pw "join") ⟨106,4,117,13⟩)
 (.cons (.ret (.var 0 ⟨118,11,118,15⟩) ⟨118,4,118,15⟩)
 .nil)))))
noncomputable def pFjoin : List Nat := [2, 3]
noncomputable def bFbasename : Bl := (.cons (.asg 3 ⟨120,4,120,5⟩ (.call 0 ⟨120,8,120,14⟩ (.cons (.var 3 ⟨120,15,120,16⟩) .nil) ⟨120,8,120,17⟩) ⟨120,4,120,17⟩)
 (.cons (.asg 4 ⟨121,4,121,7⟩ (.call 1 ⟨121,10,121,18⟩ (.cons (.var 3 ⟨121,19,121,20⟩) .nil) ⟨121,10,121,21⟩) ⟨121,4,121,21⟩)
 (.cons (.asg 6 ⟨122,4,122,5⟩ (.bin .add (.meth .rfind (.var 3 ⟨122,8,122,9⟩) ⟨122,8,122,15⟩ (.cons (.var 4 ⟨122,16,122,19⟩) .nil) ⟨122,8,122,20⟩) (.int (1) 0 ⟨122,23,122,24⟩) ⟨122,8,122,24⟩) ⟨122,4,122,24⟩)
 (.cons (.ret (.slice (.var 3 ⟨123,11,123,12⟩) (.some (.var 6 ⟨123,13,123,14⟩)) .none ⟨123,13,123,15⟩ ⟨123,11,123,16⟩) ⟨123,4,123,16⟩)
 .nil))))
noncomputable def pFbasename : List Nat := [3]
noncomputable def bFdirname : Bl := (.cons (.asg 3 ⟨125,4,125,5⟩ (.call 0 ⟨125,8,125,14⟩ (.cons (.var 3 ⟨125,15,125,16⟩) .nil) ⟨125,8,125,17⟩) ⟨125,4,125,17⟩)
 (.cons (.asg 4 ⟨126,4,126,7⟩ (.call 1 ⟨126,10,126,18⟩ (.cons (.var 3 ⟨126,19,126,20⟩) .nil) ⟨126,10,126,21⟩) ⟨126,4,126,21⟩)
 (.cons (.asg 6 ⟨127,4,127,5⟩ (.bin .add (.meth .rfind (.var 3 ⟨127,8,127,9⟩) ⟨127,8,127,15⟩ (.cons (.var 4 ⟨127,16,127,19⟩) .nil) ⟨127,8,127,20⟩) (.int (1) 0 ⟨127,23,127,24⟩) ⟨127,8,127,24⟩) ⟨127,4,127,24⟩)
 (.cons (.asg 7 ⟨128,4,128,8⟩ (.slice (.var 3 ⟨128,11,128,12⟩) .none (.some (.var 6 ⟨128,14,128,15⟩)) ⟨128,13,128,15⟩ ⟨128,11,128,16⟩) ⟨128,4,128,16⟩)
 (.cons (.ite (.and (.var 7 ⟨129,7,129,11⟩) (.cmp .ne (.var 7 ⟨129,16,129,20⟩) (.bin .mul (.var 4 ⟨129,24,129,27⟩) (.bi .len ⟨129,30,129,33⟩ (.cons (.var 7 ⟨129,34,129,38⟩) .nil) ⟨129,30,129,39⟩) ⟨129,24,129,39⟩) ⟨129,16,129,39⟩) ⟨129,7,129,39⟩) (.cons (.asg 7 ⟨130,8,130,12⟩ (.meth .rstrip (.var 7 ⟨130,15,130,19⟩) ⟨130,15,130,26⟩ (.cons (.var 4 ⟨130,27,130,30⟩) .nil) ⟨130,15,130,31⟩) ⟨130,8,130,31⟩)
 .nil) .nil ⟨129,4,130,31⟩)
 (.cons (.ret (.var 7 ⟨131,11,131,15⟩) ⟨131,4,131,15⟩)
 .nil))))))
noncomputable def pFdirname : List Nat := [3]
noncomputable def bF_escape_cdata : Bl := (.cons (.tri (.cons (.repIf 8 "&" 0 ⟨137,11,137,14⟩ ⟨137,18,137,22⟩ ⟨137,11,137,22⟩ ⟨138,12,138,16⟩ ⟨138,19,138,23⟩ ⟨138,19,138,31⟩ 0 ⟨138,32,138,35⟩ "&amp;" 0 ⟨138,37,138,44⟩ ⟨138,19,138,45⟩ ⟨138,12,138,45⟩ ⟨137,8,138,45⟩)
 (.cons (.repIf 8 "<" 0 ⟨139,11,139,14⟩ ⟨139,18,139,22⟩ ⟨139,11,139,22⟩ ⟨140,12,140,16⟩ ⟨140,19,140,23⟩ ⟨140,19,140,31⟩ 0 ⟨140,32,140,35⟩ "&lt;" 0 ⟨140,37,140,43⟩ ⟨140,19,140,44⟩ ⟨140,12,140,44⟩ ⟨139,8,140,44⟩)
 (.cons (.repIf 8 ">" 0 ⟨141,11,141,14⟩ ⟨141,18,141,22⟩ ⟨141,11,141,22⟩ ⟨142,12,142,16⟩ ⟨142,19,142,23⟩ ⟨142,19,142,31⟩ 0 ⟨142,32,142,35⟩ "&gt;" 0 ⟨142,37,142,43⟩ ⟨142,19,142,44⟩ ⟨142,12,142,44⟩ ⟨141,8,142,44⟩)
 (.cons (.ret (.var 8 ⟨143,15,143,19⟩) ⟨143,8,143,19⟩)
 .nil)))) (hdOf pw "_escape_cdata") (htOf pw "_escape_cdata") ⟨136,4,145,40⟩)
 .nil)
noncomputable def pF_escape_cdata : List Nat := [8]
noncomputable def bF_escape_attrib : Bl := (.cons (.tri (.cons (.repIf 8 "&" 0 ⟨148,11,148,14⟩ ⟨148,18,148,22⟩ ⟨148,11,148,22⟩ ⟨149,12,149,16⟩ ⟨149,19,149,23⟩ ⟨149,19,149,31⟩ 0 ⟨149,32,149,35⟩ "&amp;" 0 ⟨149,37,149,44⟩ ⟨149,19,149,45⟩ ⟨149,12,149,45⟩ ⟨148,8,149,45⟩)
 (.cons (.repIf 8 "<" 0 ⟨150,11,150,14⟩ ⟨150,18,150,22⟩ ⟨150,11,150,22⟩ ⟨151,12,151,16⟩ ⟨151,19,151,23⟩ ⟨151,19,151,31⟩ 0 ⟨151,32,151,35⟩ "&lt;" 0 ⟨151,37,151,43⟩ ⟨151,19,151,44⟩ ⟨151,12,151,44⟩ ⟨150,8,151,44⟩)
 (.cons (.repIf 8 ">" 0 ⟨152,11,152,14⟩ ⟨152,18,152,22⟩ ⟨152,11,152,22⟩ ⟨153,12,153,16⟩ ⟨153,19,153,23⟩ ⟨153,19,153,31⟩ 0 ⟨153,32,153,35⟩ "&gt;" 0 ⟨153,37,153,43⟩ ⟨153,19,153,44⟩ ⟨153,12,153,44⟩ ⟨152,8,153,44⟩)
 (.cons (.repIf 8 "\"" 0 ⟨154,11,154,14⟩ ⟨154,18,154,22⟩ ⟨154,11,154,22⟩ ⟨155,12,155,16⟩ ⟨155,19,155,23⟩ ⟨155,19,155,31⟩ 0 ⟨155,32,155,35⟩ "&quot;" 0 ⟨155,37,155,45⟩ ⟨155,19,155,46⟩ ⟨155,12,155,46⟩ ⟨154,8,155,46⟩)
 (.cons (.repIf 8 "\r" 0 ⟨156,11,156,15⟩ ⟨156,19,156,23⟩ ⟨156,11,156,23⟩ ⟨157,12,157,16⟩ ⟨157,19,157,23⟩ ⟨157,19,157,31⟩ 0 ⟨157,32,157,36⟩ "&#13;" 0 ⟨157,38,157,45⟩ ⟨157,19,157,46⟩ ⟨157,12,157,46⟩ ⟨156,8,157,46⟩)
 (.cons (.repIf 8 "\n" 0 ⟨158,11,158,15⟩ ⟨158,19,158,23⟩ ⟨158,11,158,23⟩ ⟨159,12,159,16⟩ ⟨159,19,159,23⟩ ⟨159,19,159,31⟩ 0 ⟨159,32,159,36⟩ "&#10;" 0 ⟨159,38,159,45⟩ ⟨159,19,159,46⟩ ⟨159,12,159,46⟩ ⟨158,8,159,46⟩)
 (.cons (.repIf 8 "\t" 0 ⟨160,11,160,15⟩ ⟨160,19,160,23⟩ ⟨160,11,160,23⟩ ⟨161,12,161,16⟩ ⟨161,19,161,23⟩ ⟨161,19,161,31⟩ 0 ⟨161,32,161,36⟩ "&#09;" 0 ⟨161,38,161,45⟩ ⟨161,19,161,46⟩ ⟨161,12,161,46⟩ ⟨160,8,161,46⟩)
 (.cons (.ret (.var 8 ⟨162,15,162,19⟩) ⟨162,8,162,19⟩)
 .nil)))))))) (hdOf pw "_escape_attrib") (htOf pw "_escape_attrib") ⟨147,4,164,40⟩)
 .nil)
noncomputable def pF_escape_attrib : List Nat := [8]
noncomputable def bF_escape_attrib_html : Bl := (.cons (.tri (.cons (.repIf 8 "&" 0 ⟨167,11,167,14⟩ ⟨167,18,167,22⟩ ⟨167,11,167,22⟩ ⟨168,12,168,16⟩ ⟨168,19,168,23⟩ ⟨168,19,168,31⟩ 0 ⟨168,32,168,35⟩ "&amp;" 0 ⟨168,37,168,44⟩ ⟨168,19,168,45⟩ ⟨168,12,168,45⟩ ⟨167,8,168,45⟩)
 (.cons (.repIf 8 ">" 0 ⟨169,11,169,14⟩ ⟨169,18,169,22⟩ ⟨169,11,169,22⟩ ⟨170,12,170,16⟩ ⟨170,19,170,23⟩ ⟨170,19,170,31⟩ 0 ⟨170,32,170,35⟩ "&gt;" 0 ⟨170,37,170,43⟩ ⟨170,19,170,44⟩ ⟨170,12,170,44⟩ ⟨169,8,170,44⟩)
 (.cons (.repIf 8 "\"" 0 ⟨171,11,171,14⟩ ⟨171,18,171,22⟩ ⟨171,11,171,22⟩ ⟨172,12,172,16⟩ ⟨172,19,172,23⟩ ⟨172,19,172,31⟩ 0 ⟨172,32,172,35⟩ "&quot;" 0 ⟨172,37,172,45⟩ ⟨172,19,172,46⟩ ⟨172,12,172,46⟩ ⟨171,8,172,46⟩)
 (.cons (.ret (.var 8 ⟨173,15,173,19⟩) ⟨173,8,173,19⟩)
 .nil)))) (hdOf pw "_escape_attrib_html") (htOf pw "_escape_attrib_html") ⟨166,4,175,40⟩)
 .nil)
noncomputable def pF_escape_attrib_html : List Nat := [8]
noncomputable def bF_escape_cdata_c14n : Bl := (.cons (.tri (.cons (.repIf 8 "&" 0 ⟨178,11,178,14⟩ ⟨178,18,178,22⟩ ⟨178,11,178,22⟩ ⟨179,12,179,16⟩ ⟨179,19,179,23⟩ ⟨179,19,179,31⟩ 0 ⟨179,32,179,35⟩ "&amp;" 0 ⟨179,37,179,44⟩ ⟨179,19,179,45⟩ ⟨179,12,179,45⟩ ⟨178,8,179,45⟩)
 (.cons (.repIf 8 "<" 0 ⟨180,11,180,14⟩ ⟨180,18,180,22⟩ ⟨180,11,180,22⟩ ⟨181,12,181,16⟩ ⟨181,19,181,23⟩ ⟨181,19,181,31⟩ 0 ⟨181,32,181,35⟩ "&lt;" 0 ⟨181,37,181,43⟩ ⟨181,19,181,44⟩ ⟨181,12,181,44⟩ ⟨180,8,181,44⟩)
 (.cons (.repIf 8 ">" 0 ⟨182,11,182,14⟩ ⟨182,18,182,22⟩ ⟨182,11,182,22⟩ ⟨183,12,183,16⟩ ⟨183,19,183,23⟩ ⟨183,19,183,31⟩ 0 ⟨183,32,183,35⟩ "&gt;" 0 ⟨183,37,183,43⟩ ⟨183,19,183,44⟩ ⟨183,12,183,44⟩ ⟨182,8,183,44⟩)
 (.cons (.repIf 8 "\r" 0 ⟨184,11,184,15⟩ ⟨184,19,184,23⟩ ⟨184,11,184,23⟩ ⟨185,12,185,16⟩ ⟨185,19,185,23⟩ ⟨185,19,185,31⟩ 0 ⟨185,32,185,36⟩ "&#xD;" 0 ⟨185,38,185,45⟩ ⟨185,19,185,46⟩ ⟨185,12,185,46⟩ ⟨184,8,185,46⟩)
 (.cons (.ret (.var 8 ⟨186,15,186,19⟩) ⟨186,8,186,19⟩)
 .nil))))) (hdOf pw "_escape_cdata_c14n") (htOf pw "_escape_cdata_c14n") ⟨177,4,188,40⟩)
 .nil)
noncomputable def pF_escape_cdata_c14n : List Nat := [8]
noncomputable def bF_escape_attrib_c14n : Bl := (.cons (.tri (.cons (.repIf 8 "&" 0 ⟨191,11,191,14⟩ ⟨191,18,191,22⟩ ⟨191,11,191,22⟩ ⟨192,12,192,16⟩ ⟨192,19,192,23⟩ ⟨192,19,192,31⟩ 0 ⟨192,32,192,35⟩ "&amp;" 0 ⟨192,37,192,44⟩ ⟨192,19,192,45⟩ ⟨192,12,192,45⟩ ⟨191,8,192,45⟩)
 (.cons (.repIf 8 "<" 0 ⟨193,11,193,14⟩ ⟨193,18,193,22⟩ ⟨193,11,193,22⟩ ⟨194,12,194,16⟩ ⟨194,19,194,23⟩ ⟨194,19,194,31⟩ 0 ⟨194,32,194,35⟩ "&lt;" 0 ⟨194,37,194,43⟩ ⟨194,19,194,44⟩ ⟨194,12,194,44⟩ ⟨193,8,194,44⟩)
 (.cons (.repIf 8 "\"" 0 ⟨195,11,195,14⟩ ⟨195,18,195,22⟩ ⟨195,11,195,22⟩ ⟨196,12,196,16⟩ ⟨196,19,196,23⟩ ⟨196,19,196,31⟩ 0 ⟨196,32,196,35⟩ "&quot;" 0 ⟨196,37,196,45⟩ ⟨196,19,196,46⟩ ⟨196,12,196,46⟩ ⟨195,8,196,46⟩)
 (.cons (.repIf 8 "\t" 0 ⟨197,11,197,15⟩ ⟨197,19,197,23⟩ ⟨197,11,197,23⟩ ⟨198,12,198,16⟩ ⟨198,19,198,23⟩ ⟨198,19,198,31⟩ 0 ⟨198,32,198,36⟩ "&#x9;" 0 ⟨198,38,198,45⟩ ⟨198,19,198,46⟩ ⟨198,12,198,46⟩ ⟨197,8,198,46⟩)
 (.cons (.repIf 8 "\n" 0 ⟨199,11,199,15⟩ ⟨199,19,199,23⟩ ⟨199,11,199,23⟩ ⟨200,12,200,16⟩ ⟨200,19,200,23⟩ ⟨200,19,200,31⟩ 0 ⟨200,32,200,36⟩ "&#xA;" 0 ⟨200,38,200,45⟩ ⟨200,19,200,46⟩ ⟨200,12,200,46⟩ ⟨199,8,200,46⟩)
 (.cons (.repIf 8 "\r" 0 ⟨201,11,201,15⟩ ⟨201,19,201,23⟩ ⟨201,11,201,23⟩ ⟨202,12,202,16⟩ ⟨202,19,202,23⟩ ⟨202,19,202,31⟩ 0 ⟨202,32,202,36⟩ "&#xD;" 0 ⟨202,38,202,45⟩ ⟨202,19,202,46⟩ ⟨202,12,202,46⟩ ⟨201,8,202,46⟩)
 (.cons (.ret (.var 8 ⟨203,15,203,19⟩) ⟨203,8,203,19⟩)
 .nil))))))) (hdOf pw "_escape_attrib_c14n") (htOf pw "_escape_attrib_c14n") ⟨190,4,205,40⟩)
 .nil)
noncomputable def pF_escape_attrib_c14n : List Nat := [8]
noncomputable def Sd0 : Sm := (.own 10 ⟨208,4,208,9⟩ (.list (.cons (.int (2) 0 ⟨208,13,208,14⟩) (.cons (.int (697) 0 ⟨208,16,208,19⟩) (.cons (.int (3) 0 ⟨208,21,208,22⟩) .nil))) ⟨208,12,208,23⟩) ⟨208,4,208,23⟩)
noncomputable def Sd1_0 : Sm := (.augI 10 ⟨210,8,210,13⟩ (.bin .mod (.var 11 ⟨210,14,210,15⟩) (.int (3) 0 ⟨210,18,210,19⟩) ⟨210,14,210,19⟩) ⟨210,8,210,20⟩ .add (.bin .mod (.var 12 ⟨210,24,210,25⟩) (.int (10000000) 0 ⟨210,28,210,36⟩) ⟨210,24,210,36⟩) ⟨210,8,210,36⟩)
noncomputable def Xd1 : X := (.bi .enumerate ⟨209,16,209,25⟩ (.cons (.slice (.var 9 ⟨209,26,209,32⟩) .none (.some (.int (60) 0 ⟨209,34,209,36⟩)) ⟨209,33,209,36⟩ ⟨209,26,209,37⟩) .nil) ⟨209,16,209,38⟩)
noncomputable def Bd1 : Bl := (.cons Sd1_0 .nil)
noncomputable def Sd1 : Sm := (.for (.two 11 ⟨209,8,209,9⟩ 12 ⟨209,11,209,12⟩ 0 ⟨209,8,209,12⟩) Xd1 Bd1 ⟨209,4,210,36⟩)
noncomputable def Sd2 : Sm := (.asg 13 ⟨211,4,211,8⟩ (.list (.cons (.str "\t" 0 ⟨211,12,211,16⟩) (.cons (.str "\n" 0 ⟨211,18,211,22⟩) (.cons (.str "\r" 0 ⟨211,24,211,28⟩) (.cons (.str "\"" 0 ⟨211,30,211,33⟩) (.cons (.str "&" 0 ⟨211,35,211,38⟩) (.cons (.str "&lt;" 0 ⟨211,40,211,46⟩) (.cons (.str "#" 0 ⟨211,48,211,51⟩) (.cons (.str "'" 0 ⟨211,53,211,56⟩) (.cons (.str "<" 0 ⟨211,58,211,61⟩) (.cons (.str "=" 0 ⟨211,63,211,66⟩) (.cons (.str ">" 0 ⟨211,68,211,71⟩) (.cons (.str "a" 0 ⟨211,73,211,76⟩) .nil)))))))))))) ⟨211,11,211,77⟩) ⟨211,4,211,77⟩)
noncomputable def Sd3 : Sm := (.asg 14 ⟨212,4,212,9⟩ (.lcomp (.item (.var 13 ⟨212,13,212,17⟩) (.bin .mod (.bin .add (.bin .fdiv (.item (.var 10 ⟨212,19,212,24⟩) (.int (0) 0 ⟨212,25,212,26⟩) ⟨212,19,212,27⟩) (.int (5) 0 ⟨212,31,212,32⟩) ⟨212,19,212,32⟩) (.var 11 ⟨212,35,212,36⟩) ⟨212,19,212,36⟩) (.int (12) 0 ⟨212,40,212,42⟩) ⟨212,18,212,42⟩) ⟨212,13,212,43⟩) (.cons (.one 11 ⟨212,48,212,49⟩) (.bi .range ⟨212,53,212,58⟩ (.cons (.int (5) 0 ⟨212,59,212,60⟩) .nil) ⟨212,53,212,61⟩) .nil .nil) sc0 ⟨212,12,212,62⟩) ⟨212,4,212,62⟩)
noncomputable def Sd4 : Sm := (.asg 15 ⟨213,4,213,9⟩ (.lcomp (.tup (.cons (.var 11 ⟨213,14,213,15⟩) (.cons (.var 16 ⟨213,17,213,18⟩) .nil)) 0 ⟨213,13,213,19⟩) (.cons (.one 11 ⟨213,24,213,25⟩) (.bi .range ⟨213,29,213,34⟩ (.cons (.int (5) 0 ⟨213,35,213,36⟩) .nil) ⟨213,29,213,37⟩) .nil (.cons (.one 16 ⟨213,42,213,43⟩) (.bi .range ⟨213,47,213,52⟩ (.cons (.bin .add (.var 11 ⟨213,53,213,54⟩) (.int (1) 0 ⟨213,57,213,58⟩) ⟨213,53,213,58⟩) (.cons (.int (5) 0 ⟨213,60,213,61⟩) .nil)) ⟨213,47,213,62⟩) .nil .nil)) sc1 ⟨213,12,213,63⟩) ⟨213,4,213,63⟩)
noncomputable def Sd5 : Sm := (.asg 15 ⟨214,4,214,9⟩ (.lcomp (.var 17 ⟨214,13,214,17⟩) (.cons (.two 18 ⟨214,22,214,27⟩ 17 ⟨214,29,214,33⟩ 0 ⟨214,22,214,33⟩) (.bi .enumerate ⟨214,37,214,46⟩ (.cons (.var 15 ⟨214,47,214,52⟩) .nil) ⟨214,37,214,53⟩) (.cons (.bin .band (.bin .rsh (.item (.var 10 ⟨214,57,214,62⟩) (.int (1) 0 ⟨214,63,214,64⟩) ⟨214,57,214,65⟩) (.var 18 ⟨214,69,214,74⟩) ⟨214,57,214,74⟩) (.int (1) 0 ⟨214,77,214,78⟩) ⟨214,57,214,78⟩) .nil) .nil) sc2 ⟨214,12,214,79⟩) ⟨214,4,214,79⟩)
noncomputable def Sd6 : Sm := (.asg 19 ⟨215,4,215,8⟩ (.lcomp (.lcomp (.var 16 ⟨215,13,215,14⟩) (.cons (.one 16 ⟨215,19,215,20⟩) (.bi .range ⟨215,24,215,29⟩ (.cons (.int (5) 0 ⟨215,30,215,31⟩) .nil) ⟨215,24,215,32⟩) (.cons (.or (.cmp .isIn (.tup (.cons (.var 11 ⟨215,37,215,38⟩) (.cons (.var 16 ⟨215,40,215,41⟩) .nil)) 0 ⟨215,36,215,42⟩) (.var 15 ⟨215,46,215,51⟩) ⟨215,36,215,51⟩) (.cmp .isIn (.tup (.cons (.var 16 ⟨215,56,215,57⟩) (.cons (.var 11 ⟨215,59,215,60⟩) .nil)) 0 ⟨215,55,215,61⟩) (.var 15 ⟨215,65,215,70⟩) ⟨215,55,215,70⟩) ⟨215,36,215,70⟩) .nil) .nil) sc3 ⟨215,12,215,71⟩) (.cons (.one 11 ⟨215,76,215,77⟩) (.bi .range ⟨215,81,215,86⟩ (.cons (.int (5) 0 ⟨215,87,215,88⟩) .nil) ⟨215,81,215,89⟩) .nil .nil) sc4 ⟨215,11,215,90⟩) ⟨215,4,215,90⟩)
noncomputable def Sd7 : Sm := (.ret (.tup (.cons (.bin .mod (.item (.var 10 ⟨216,12,216,17⟩) (.int (0) 0 ⟨216,18,216,19⟩) ⟨216,12,216,20⟩) (.int (5) 0 ⟨216,23,216,24⟩) ⟨216,12,216,24⟩) (.cons (.var 14 ⟨216,26,216,31⟩) (.cons (.var 19 ⟨216,33,216,37⟩) (.cons (.bin .mod (.item (.var 10 ⟨216,39,216,44⟩) (.int (2) 0 ⟨216,45,216,46⟩) ⟨216,39,216,47⟩) (.int (1000) 0 ⟨216,50,216,54⟩) ⟨216,39,216,54⟩) .nil)))) 0 ⟨216,11,216,55⟩) ⟨216,4,216,55⟩)
noncomputable def bF_law_drawn : Bl := (.cons Sd0 (.cons Sd1 (.cons Sd2 (.cons Sd3 (.cons Sd4 (.cons Sd5 (.cons Sd6 (.cons Sd7 .nil))))))))
noncomputable def pF_law_drawn : List Nat := [9]
noncomputable def bF_law_told : Bl := (.cons (.asg 20 ⟨218,4,218,9⟩ (.list (.cons (.dict (.cons (.str "&" 0 ⟨218,14,218,17⟩) (.cons (.str "<" 0 ⟨218,28,218,31⟩) (.cons (.str ">" 0 ⟨218,41,218,44⟩) .nil))) (.cons (.str "&amp;" 0 ⟨218,19,218,26⟩) (.cons (.str "&lt;" 0 ⟨218,33,218,39⟩) (.cons (.str "&gt;" 0 ⟨218,46,218,52⟩) .nil))) ⟨218,13,218,53⟩) (.cons (.dict (.cons (.str "&" 0 ⟨218,56,218,59⟩) (.cons (.str "<" 0 ⟨218,70,218,73⟩) (.cons (.str ">" 0 ⟨218,83,218,86⟩) (.cons (.str "\r" 0 ⟨218,96,218,100⟩) .nil)))) (.cons (.str "&amp;" 0 ⟨218,61,218,68⟩) (.cons (.str "&lt;" 0 ⟨218,75,218,81⟩) (.cons (.str "&gt;" 0 ⟨218,88,218,94⟩) (.cons (.str "&#xD;" 0 ⟨218,102,218,109⟩) .nil)))) ⟨218,55,218,110⟩) (.cons (.dict (.cons (.str "&" 0 ⟨218,113,218,116⟩) (.cons (.str "<" 0 ⟨218,127,218,130⟩) (.cons (.str ">" 0 ⟨218,140,218,143⟩) (.cons (.str "\"" 0 ⟨218,153,218,156⟩) (.cons (.str "\r" 0 ⟨218,168,218,172⟩) (.cons (.str "\n" 0 ⟨218,183,218,187⟩) (.cons (.str "\t" 0 ⟨218,198,218,202⟩) .nil))))))) (.cons (.str "&amp;" 0 ⟨218,118,218,125⟩) (.cons (.str "&lt;" 0 ⟨218,132,218,138⟩) (.cons (.str "&gt;" 0 ⟨218,145,218,151⟩) (.cons (.str "&quot;" 0 ⟨218,158,218,166⟩) (.cons (.str "&#13;" 0 ⟨218,174,218,181⟩) (.cons (.str "&#10;" 0 ⟨218,189,218,196⟩) (.cons (.str "&#09;" 0 ⟨218,204,218,211⟩) .nil))))))) ⟨218,112,218,212⟩) (.cons (.dict (.cons (.str "&" 0 ⟨218,215,218,218⟩) (.cons (.str "<" 0 ⟨218,229,218,232⟩) (.cons (.str "\"" 0 ⟨218,242,218,245⟩) (.cons (.str "\r" 0 ⟨218,257,218,261⟩) (.cons (.str "\n" 0 ⟨218,272,218,276⟩) (.cons (.str "\t" 0 ⟨218,287,218,291⟩) .nil)))))) (.cons (.str "&amp;" 0 ⟨218,220,218,227⟩) (.cons (.str "&lt;" 0 ⟨218,234,218,240⟩) (.cons (.str "&quot;" 0 ⟨218,247,218,255⟩) (.cons (.str "&#xD;" 0 ⟨218,263,218,270⟩) (.cons (.str "&#xA;" 0 ⟨218,278,218,285⟩) (.cons (.str "&#x9;" 0 ⟨218,293,218,300⟩) .nil)))))) ⟨218,214,218,301⟩) (.cons (.dict (.cons (.str "&" 0 ⟨218,304,218,307⟩) (.cons (.str ">" 0 ⟨218,318,218,321⟩) (.cons (.str "\"" 0 ⟨218,331,218,334⟩) .nil))) (.cons (.str "&amp;" 0 ⟨218,309,218,316⟩) (.cons (.str "&gt;" 0 ⟨218,323,218,329⟩) (.cons (.str "&quot;" 0 ⟨218,336,218,344⟩) .nil))) ⟨218,303,218,345⟩) .nil))))) ⟨218,12,218,346⟩) ⟨218,4,218,346⟩)
 (.cons (.ret (.meth .join (.str "" 0 ⟨219,11,219,13⟩) ⟨219,11,219,18⟩ (.cons (.lcomp (.meth .get (.item (.var 20 ⟨219,20,219,25⟩) (.var 1 ⟨219,26,219,30⟩) ⟨219,20,219,31⟩) ⟨219,20,219,35⟩ (.cons (.var 21 ⟨219,36,219,40⟩) (.cons (.var 21 ⟨219,42,219,46⟩) .nil)) ⟨219,20,219,47⟩) (.cons (.one 21 ⟨219,52,219,56⟩) (.var 8 ⟨219,60,219,64⟩) .nil .nil) sc5 ⟨219,19,219,65⟩) .nil) ⟨219,11,219,66⟩) ⟨219,4,219,66⟩)
 .nil))
noncomputable def pF_law_told : List Nat := [8, 1]
noncomputable def bF_law_written : Bl := (.cons (.ite (.cmp .eq (.var 1 ⟨221,7,221,11⟩) (.int (0) 0 ⟨221,15,221,16⟩) ⟨221,7,221,16⟩) (.cons (.ret (.call 6 ⟨222,15,222,28⟩ (.cons (.var 8 ⟨222,29,222,33⟩) .nil) ⟨222,15,222,34⟩) ⟨222,8,222,34⟩)
 .nil) .nil ⟨221,4,222,34⟩)
 (.cons (.ite (.cmp .eq (.var 1 ⟨223,7,223,11⟩) (.int (1) 0 ⟨223,15,223,16⟩) ⟨223,7,223,16⟩) (.cons (.ret (.call 9 ⟨224,15,224,33⟩ (.cons (.var 8 ⟨224,34,224,38⟩) .nil) ⟨224,15,224,39⟩) ⟨224,8,224,39⟩)
 .nil) .nil ⟨223,4,224,39⟩)
 (.cons (.ite (.cmp .eq (.var 1 ⟨225,7,225,11⟩) (.int (2) 0 ⟨225,15,225,16⟩) ⟨225,7,225,16⟩) (.cons (.ret (.call 7 ⟨226,15,226,29⟩ (.cons (.var 8 ⟨226,30,226,34⟩) .nil) ⟨226,15,226,35⟩) ⟨226,8,226,35⟩)
 .nil) .nil ⟨225,4,226,35⟩)
 (.cons (.ite (.cmp .eq (.var 1 ⟨227,7,227,11⟩) (.int (3) 0 ⟨227,15,227,16⟩) ⟨227,7,227,16⟩) (.cons (.ret (.call 10 ⟨228,15,228,34⟩ (.cons (.var 8 ⟨228,35,228,39⟩) .nil) ⟨228,15,228,40⟩) ⟨228,8,228,40⟩)
 .nil) .nil ⟨227,4,228,40⟩)
 (.cons (.ret (.call 8 ⟨229,11,229,30⟩ (.cons (.var 8 ⟨229,31,229,35⟩) .nil) ⟨229,11,229,36⟩) ⟨229,4,229,36⟩)
 .nil)))))
noncomputable def pF_law_written : List Nat := [8, 1]
noncomputable def Sw0 (c : Nat) : Sm := (.own 24 ⟨231,4,231,8⟩ (.list (.cons (.meth .join (.str "" 0 ⟨231,12,231,14⟩) ⟨231,12,231,19⟩ (.cons (.lcomp (.bin .add (.str "/" 0 ⟨231,21,231,24⟩) (.item (.var 23 ⟨231,27,231,32⟩) (.var 11 ⟨231,33,231,34⟩) ⟨231,27,231,35⟩) ⟨231,21,231,35⟩) (.cons (.one 11 ⟨231,40,231,41⟩) (.var 22 ⟨231,45,231,48⟩) .nil .nil) sc6 ⟨231,20,231,49⟩) .nil) ⟨231,12,231,50⟩) .nil) ⟨231,11,231,51⟩) ⟨231,4,231,51⟩)
noncomputable def Sw1_0 (c : Nat) : Sm := (.ite (.cmp .notIn (.var 11 ⟨233,11,233,12⟩) (.var 22 ⟨233,20,233,23⟩) ⟨233,11,233,23⟩) (.cons (.ext 24 ⟨234,12,234,16⟩ (.call c ⟨234,20,234,29⟩ (.cons (.bin .add (.var 22 ⟨234,30,234,33⟩) (.list (.cons (.var 11 ⟨234,37,234,38⟩) .nil) ⟨234,36,234,39⟩) ⟨234,30,234,39⟩) (.cons (.var 19 ⟨234,41,234,45⟩) (.cons (.var 23 ⟨234,47,234,52⟩) .nil))) ⟨234,20,234,53⟩) ⟨234,12,234,53⟩) .nil) .nil ⟨233,8,234,53⟩)
noncomputable def Xw1 (c : Nat) : X := (.item (.var 19 ⟨232,13,232,17⟩) (.item (.var 22 ⟨232,18,232,21⟩) (.neg (.int (1) 0 ⟨232,23,232,24⟩) ⟨232,22,232,24⟩) ⟨232,18,232,25⟩) ⟨232,13,232,26⟩)
noncomputable def Bw1 (c : Nat) : Bl := (.cons (Sw1_0 c) .nil)
noncomputable def Sw1 (c : Nat) : Sm := (.for (.one 11 ⟨232,8,232,9⟩) (Xw1 c) (Bw1 c) ⟨232,4,234,53⟩)
noncomputable def Sw2 (c : Nat) : Sm := (.frz 24)
noncomputable def Sw3 (c : Nat) : Sm := (.ret (.var 24 ⟨235,11,235,15⟩) ⟨235,4,235,15⟩)
noncomputable def bF_law_ways (c : Nat) : Bl := (.cons (Sw0 c) (.cons (Sw1 c) (.cons (Sw2 c) (.cons (Sw3 c) .nil))))
noncomputable def pF_law_ways : List Nat := [22, 19, 23]
noncomputable def St0 : Sm := (.asg 25 ⟨237,4,237,9⟩ (.dcomp (.item (.var 23 ⟨237,13,237,18⟩) (.var 11 ⟨237,19,237,20⟩) ⟨237,13,237,21⟩) (.bi .sorted ⟨237,23,237,29⟩ (.cons (.lcomp (.item (.var 23 ⟨237,31,237,36⟩) (.var 16 ⟨237,37,237,38⟩) ⟨237,31,237,39⟩) (.cons (.one 16 ⟨237,44,237,45⟩) (.item (.var 19 ⟨237,49,237,53⟩) (.var 11 ⟨237,54,237,55⟩) ⟨237,49,237,56⟩) .nil .nil) sc7 ⟨237,30,237,57⟩) .nil) ⟨237,23,237,58⟩) (.cons (.one 11 ⟨237,63,237,64⟩) (.bi .range ⟨237,68,237,73⟩ (.cons (.int (5) 0 ⟨237,74,237,75⟩) .nil) ⟨237,68,237,76⟩) .nil .nil) sc8 ⟨237,12,237,77⟩) ⟨237,4,237,77⟩)
noncomputable def St1 : Sm := (.own 26 ⟨238,4,238,9⟩ (.list (.cons (.call 2 ⟨238,13,238,17⟩ (.cons (.str "/" 0 ⟨238,18,238,21⟩) (.cons (.item (.var 23 ⟨238,23,238,28⟩) (.int (0) 0 ⟨238,29,238,30⟩) ⟨238,23,238,31⟩) .nil)) ⟨238,13,238,32⟩) .nil) ⟨238,12,238,33⟩) ⟨238,4,238,33⟩)
noncomputable def St2 : Sm := (.asg 27 ⟨239,4,239,8⟩ (.int (0) 0 ⟨239,11,239,12⟩) ⟨239,4,239,12⟩)
noncomputable def St3_0 : Sm := (.asg 0 ⟨241,8,241,12⟩ (.item (.var 26 ⟨241,15,241,20⟩) (.var 27 ⟨241,21,241,25⟩) ⟨241,15,241,26⟩) ⟨241,8,241,26⟩)
noncomputable def St3_1_0 : Sm := (.app 26 ⟨243,12,243,17⟩ ⟨243,12,243,24⟩ (.call 2 ⟨243,25,243,29⟩ (.cons (.var 0 ⟨243,30,243,34⟩) (.cons (.var 28 ⟨243,36,243,39⟩) .nil)) ⟨243,25,243,40⟩) ⟨243,12,243,41⟩ ⟨243,12,243,41⟩)
noncomputable def Xt3_1 : X := (.item (.call 5 ⟨242,19,242,41⟩ (.cons (.item (.var 25 ⟨242,42,242,47⟩) (.call 3 ⟨242,48,242,56⟩ (.cons (.var 0 ⟨242,57,242,61⟩) .nil) ⟨242,48,242,62⟩) ⟨242,42,242,63⟩) (.cons (.bi .sorted ⟨242,65,242,71⟩ (.cons (.slice (.meth .split (.var 0 ⟨242,72,242,76⟩) ⟨242,72,242,82⟩ (.cons (.str "/" 0 ⟨242,83,242,86⟩) .nil) ⟨242,72,242,87⟩) (.some (.int (1) 0 ⟨242,88,242,89⟩)) .none ⟨242,88,242,90⟩ ⟨242,72,242,91⟩) .nil) ⟨242,65,242,92⟩) .nil)) ⟨242,19,242,93⟩) (.int (0) 0 ⟨242,94,242,95⟩) ⟨242,19,242,96⟩)
noncomputable def Bt3_1 : Bl := (.cons St3_1_0 .nil)
noncomputable def St3_1 : Sm := (.for (.one 28 ⟨242,12,242,15⟩) Xt3_1 Bt3_1 ⟨242,8,243,41⟩)
noncomputable def St3_2 : Sm := (.aug 27 ⟨244,8,244,12⟩ .add (.int (1) 0 ⟨244,16,244,17⟩) ⟨244,8,244,17⟩)
noncomputable def Xt3 : X := (.cmp .lt (.var 27 ⟨240,10,240,14⟩) (.bi .min ⟨240,17,240,20⟩ (.cons (.bi .len ⟨240,21,240,24⟩ (.cons (.var 26 ⟨240,25,240,30⟩) .nil) ⟨240,21,240,31⟩) (.cons (.int (70) 0 ⟨240,33,240,35⟩) .nil)) ⟨240,17,240,36⟩) ⟨240,10,240,36⟩)
noncomputable def Bt3 : Bl := (.cons St3_0 (.cons St3_1 (.cons St3_2 .nil)))
noncomputable def St3 : Sm := (.whl Xt3 Bt3 ⟨240,4,244,17⟩)
noncomputable def St4 : Sm := (.frz 26)
noncomputable def St5 : Sm := (.ret (.var 26 ⟨245,11,245,16⟩) ⟨245,4,245,16⟩)
noncomputable def bF_law_tree : Bl := (.cons St0 (.cons St1 (.cons St2 (.cons St3 (.cons St4 (.cons St5 .nil))))))
noncomputable def pF_law_tree : List Nat := [23, 19]
noncomputable def Sp0 (c : Nat) : Sm := (.ite (.cmp .eq (.var 29 ⟨247,7,247,11⟩) (.list .nil ⟨247,15,247,17⟩) ⟨247,7,247,17⟩) (.cons (.ret (.int (1) 0 ⟨248,15,248,16⟩) ⟨248,8,248,16⟩) .nil) .nil ⟨247,4,248,16⟩)
noncomputable def Sp1 (c : Nat) : Sm := (.asg 30 ⟨249,4,249,9⟩ (.bin .mul (.var 12 ⟨249,12,249,13⟩) (.call c ⟨249,16,249,27⟩ (.cons (.slice (.var 29 ⟨249,28,249,32⟩) (.some (.int (1) 0 ⟨249,33,249,34⟩)) .none ⟨249,33,249,35⟩ ⟨249,28,249,36⟩) (.cons (.var 19 ⟨249,38,249,42⟩) (.cons (.var 12 ⟨249,44,249,45⟩) .nil))) ⟨249,16,249,46⟩) ⟨249,12,249,46⟩) ⟨249,4,249,46⟩)
noncomputable def Sp2_0 (c : Nat) : Sm := (.ite (.cmp .isIn (.var 11 ⟨251,11,251,12⟩) (.item (.var 19 ⟨251,16,251,20⟩) (.item (.var 29 ⟨251,21,251,25⟩) (.int (0) 0 ⟨251,26,251,27⟩) ⟨251,21,251,28⟩) ⟨251,16,251,29⟩) ⟨251,11,251,29⟩) (.cons (.aug 30 ⟨252,12,252,17⟩ .sub (.call c ⟨252,21,252,32⟩ (.cons (.lcomp (.var 16 ⟨252,34,252,35⟩) (.cons (.one 16 ⟨252,40,252,41⟩) (.slice (.var 29 ⟨252,45,252,49⟩) (.some (.int (1) 0 ⟨252,50,252,51⟩)) .none ⟨252,50,252,52⟩ ⟨252,45,252,53⟩) (.cons (.cmp .ne (.var 16 ⟨252,57,252,58⟩) (.var 11 ⟨252,62,252,63⟩) ⟨252,57,252,63⟩) .nil) .nil) sc9 ⟨252,33,252,64⟩) (.cons (.var 19 ⟨252,66,252,70⟩) (.cons (.var 12 ⟨252,72,252,73⟩) .nil))) ⟨252,21,252,74⟩) ⟨252,12,252,74⟩) .nil) .nil ⟨251,8,252,74⟩)
noncomputable def Xp2 (c : Nat) : X := (.slice (.var 29 ⟨250,13,250,17⟩) (.some (.int (1) 0 ⟨250,18,250,19⟩)) .none ⟨250,18,250,20⟩ ⟨250,13,250,21⟩)
noncomputable def Bp2 (c : Nat) : Bl := (.cons (Sp2_0 c) .nil)
noncomputable def Sp2 (c : Nat) : Sm := (.for (.one 11 ⟨250,8,250,9⟩) (Xp2 c) (Bp2 c) ⟨250,4,252,74⟩)
noncomputable def Sp3 (c : Nat) : Sm := (.ret (.var 30 ⟨253,11,253,16⟩) ⟨253,4,253,16⟩)
noncomputable def bF_law_paired (c : Nat) : Bl := (.cons (Sp0 c) (.cons (Sp1 c) (.cons (Sp2 c) (.cons (Sp3 c) .nil))))
noncomputable def pF_law_paired : List Nat := [29, 19, 12]
noncomputable def Sf0 : Sm := (.own 31 ⟨255,4,255,9⟩ (.dcomp (.var 0 ⟨255,13,255,17⟩) (.int (1) 0 ⟨255,19,255,20⟩) (.cons (.one 0 ⟨255,25,255,29⟩) (.var 26 ⟨255,33,255,38⟩) .nil .nil) sc10 ⟨255,12,255,39⟩) ⟨255,4,255,39⟩)
noncomputable def Sf1 : Sm := (.own 32 ⟨256,4,256,10⟩ (.dcomp (.var 0 ⟨256,14,256,18⟩) (.int (0) 0 ⟨256,20,256,21⟩) (.cons (.one 0 ⟨256,26,256,30⟩) (.var 26 ⟨256,34,256,39⟩) .nil .nil) sc10 ⟨256,13,256,40⟩) ⟨256,4,256,40⟩)
noncomputable def Sf2 : Sm := (.own 33 ⟨257,4,257,9⟩ (.dict .nil .nil ⟨257,12,257,14⟩) ⟨257,4,257,14⟩)
noncomputable def Sf3_0 : Sm := (.setI 33 ⟨259,8,259,13⟩ (.var 0 ⟨259,14,259,18⟩) ⟨259,8,259,19⟩ (.bin .sub (.bin .mul (.var 12 ⟨259,22,259,23⟩) (.item (.var 31 ⟨259,26,259,31⟩) (.var 0 ⟨259,32,259,36⟩) ⟨259,26,259,37⟩) ⟨259,22,259,37⟩) (.item (.var 32 ⟨259,40,259,46⟩) (.var 0 ⟨259,47,259,51⟩) ⟨259,40,259,52⟩) ⟨259,22,259,52⟩) ⟨259,8,259,52⟩)
noncomputable def Sf3_1 : Sm := (.asg 34 ⟨260,8,260,13⟩ (.call 4 ⟨260,16,260,23⟩ (.cons (.var 0 ⟨260,24,260,28⟩) .nil) ⟨260,16,260,29⟩) ⟨260,8,260,29⟩)
noncomputable def Sf3_2 : Sm := (.ite (.cmp .isIn (.var 34 ⟨261,11,261,16⟩) (.var 31 ⟨261,20,261,25⟩) ⟨261,11,261,25⟩) (.cons (.setI 32 ⟨262,12,262,18⟩ (.var 34 ⟨262,19,262,24⟩) ⟨262,12,262,25⟩ (.bin .add (.bin .mul (.item (.var 32 ⟨262,28,262,34⟩) (.var 34 ⟨262,35,262,40⟩) ⟨262,28,262,41⟩) (.item (.var 33 ⟨262,44,262,49⟩) (.var 0 ⟨262,50,262,54⟩) ⟨262,44,262,55⟩) ⟨262,28,262,55⟩) (.bin .mul (.item (.var 31 ⟨262,58,262,63⟩) (.var 34 ⟨262,64,262,69⟩) ⟨262,58,262,70⟩) (.item (.var 31 ⟨262,73,262,78⟩) (.var 0 ⟨262,79,262,83⟩) ⟨262,73,262,84⟩) ⟨262,58,262,84⟩) ⟨262,28,262,84⟩) ⟨262,12,262,84⟩) (.cons (.setI 31 ⟨263,12,263,17⟩ (.var 34 ⟨263,18,263,23⟩) ⟨263,12,263,24⟩ (.bin .mul (.item (.var 31 ⟨263,27,263,32⟩) (.var 34 ⟨263,33,263,38⟩) ⟨263,27,263,39⟩) (.item (.var 33 ⟨263,42,263,47⟩) (.var 0 ⟨263,48,263,52⟩) ⟨263,42,263,53⟩) ⟨263,27,263,53⟩) ⟨263,12,263,53⟩) .nil)) .nil ⟨261,8,263,53⟩)
noncomputable def Xf3 : X := (.rev (.bi .sorted ⟨258,16,258,22⟩ (.cons (.var 26 ⟨258,23,258,28⟩) .nil) ⟨258,16,258,29⟩) 0 ⟨258,33,258,34⟩ ⟨258,32,258,34⟩ ⟨258,30,258,34⟩ ⟨258,16,258,35⟩)
noncomputable def Bf3 : Bl := (.cons Sf3_0 (.cons Sf3_1 (.cons Sf3_2 .nil)))
noncomputable def Sf3 : Sm := (.for (.one 0 ⟨258,8,258,12⟩) Xf3 Bf3 ⟨258,4,263,53⟩)
noncomputable def Sf4 : Sm := (.ret (.tup (.cons (.item (.var 33 ⟨264,12,264,17⟩) (.item (.var 26 ⟨264,18,264,23⟩) (.int (0) 0 ⟨264,24,264,25⟩) ⟨264,18,264,26⟩) ⟨264,12,264,27⟩) (.cons (.item (.var 31 ⟨264,29,264,34⟩) (.item (.var 26 ⟨264,35,264,40⟩) (.int (0) 0 ⟨264,41,264,42⟩) ⟨264,35,264,43⟩) ⟨264,29,264,44⟩) .nil)) 0 ⟨264,11,264,45⟩) ⟨264,4,264,45⟩)
noncomputable def bF_law_folders : Bl := (.cons Sf0 (.cons Sf1 (.cons Sf2 (.cons Sf3 (.cons Sf4 .nil)))))
noncomputable def pF_law_folders : List Nat := [26, 12]
noncomputable def Sl0 : Sm := (.unp [(1, ⟨266,4,266,8⟩), (14, ⟨266,10,266,15⟩), (19, ⟨266,17,266,21⟩), (12, ⟨266,23,266,24⟩)] 0 ⟨266,4,266,24⟩ (.call 11 ⟨266,27,266,37⟩ (.cons (.var 9 ⟨266,38,266,44⟩) .nil) ⟨266,27,266,45⟩) ⟨266,4,266,45⟩)
noncomputable def Sl1 : Sm := (.asg 26 ⟨267,4,267,9⟩ (.call 19 ⟨267,12,267,21⟩ (.cons (.lcomp (.call 13 ⟨267,23,267,35⟩ (.cons (.var 8 ⟨267,36,267,40⟩) (.cons (.var 1 ⟨267,42,267,46⟩) .nil)) ⟨267,23,267,47⟩) (.cons (.one 8 ⟨267,52,267,56⟩) (.var 14 ⟨267,60,267,65⟩) .nil .nil) sc11 ⟨267,22,267,66⟩) (.cons (.var 19 ⟨267,68,267,72⟩) .nil)) ⟨267,12,267,73⟩) ⟨267,4,267,73⟩)
noncomputable def Sl2 : Sm := (.asg 35 ⟨268,4,268,8⟩ (.lcomp (.call 12 ⟨268,12,268,21⟩ (.cons (.var 8 ⟨268,22,268,26⟩) (.cons (.var 1 ⟨268,28,268,32⟩) .nil)) ⟨268,12,268,33⟩) (.cons (.one 8 ⟨268,38,268,42⟩) (.var 14 ⟨268,46,268,51⟩) .nil .nil) sc12 ⟨268,11,268,52⟩) ⟨268,4,268,52⟩)
noncomputable def Sl3 : Sm := (.ite (.cmp .ne (.bi .sorted ⟨269,7,269,13⟩ (.cons (.var 26 ⟨269,14,269,19⟩) .nil) ⟨269,7,269,20⟩) (.bi .sorted ⟨269,24,269,30⟩ (.cons (.call 18 ⟨269,31,269,40⟩ (.cons (.list (.cons (.int (0) 0 ⟨269,42,269,43⟩) .nil) ⟨269,41,269,44⟩) (.cons (.var 19 ⟨269,46,269,50⟩) (.cons (.var 35 ⟨269,52,269,56⟩) .nil))) ⟨269,31,269,57⟩) .nil) ⟨269,24,269,58⟩) ⟨269,7,269,58⟩) (.cons (.ret (.bool false 0 ⟨270,15,270,20⟩) ⟨270,8,270,20⟩) .nil) .nil ⟨269,4,270,20⟩)
noncomputable def Sl4 : Sm := (.unp [(33, ⟨271,4,271,9⟩), (31, ⟨271,11,271,16⟩)] 0 ⟨271,4,271,16⟩ (.call 26 ⟨271,19,271,31⟩ (.cons (.var 26 ⟨271,32,271,37⟩) (.cons (.var 12 ⟨271,39,271,40⟩) .nil)) ⟨271,19,271,41⟩) ⟨271,4,271,41⟩)
noncomputable def Sl5 : Sm := (.ite (.cmp .ne (.bin .mul (.var 33 ⟨272,7,272,12⟩) (.call 25 ⟨272,15,272,26⟩ (.cons (.list (.cons (.int (1) 0 ⟨272,28,272,29⟩) (.cons (.int (2) 0 ⟨272,31,272,32⟩) (.cons (.int (3) 0 ⟨272,34,272,35⟩) (.cons (.int (4) 0 ⟨272,37,272,38⟩) .nil)))) ⟨272,27,272,39⟩) (.cons (.var 19 ⟨272,41,272,45⟩) (.cons (.var 12 ⟨272,47,272,48⟩) .nil))) ⟨272,15,272,49⟩) ⟨272,7,272,49⟩) (.bin .mul (.var 31 ⟨272,53,272,58⟩) (.call 25 ⟨272,61,272,72⟩ (.cons (.list (.cons (.int (0) 0 ⟨272,74,272,75⟩) (.cons (.int (1) 0 ⟨272,77,272,78⟩) (.cons (.int (2) 0 ⟨272,80,272,81⟩) (.cons (.int (3) 0 ⟨272,83,272,84⟩) (.cons (.int (4) 0 ⟨272,86,272,87⟩) .nil))))) ⟨272,73,272,88⟩) (.cons (.var 19 ⟨272,90,272,94⟩) (.cons (.var 12 ⟨272,96,272,97⟩) .nil))) ⟨272,61,272,98⟩) ⟨272,53,272,98⟩) ⟨272,7,272,98⟩) (.cons (.ret (.bool false 0 ⟨273,15,273,20⟩) ⟨273,8,273,20⟩) .nil) .nil ⟨272,4,273,20⟩)
noncomputable def Sl6 : Sm := (.asg 36 ⟨274,4,274,8⟩ (.lcomp (.call 3 ⟨274,12,274,20⟩ (.cons (.var 0 ⟨274,21,274,25⟩) .nil) ⟨274,12,274,26⟩) (.cons (.one 0 ⟨274,31,274,35⟩) (.var 26 ⟨274,39,274,44⟩) .nil .nil) sc13 ⟨274,11,274,45⟩) ⟨274,4,274,45⟩)
noncomputable def Sl7 : Sm := (.asg 30 ⟨275,4,275,9⟩ (.call 25 ⟨275,12,275,23⟩ (.cons (.lcomp (.var 11 ⟨275,25,275,26⟩) (.cons (.one 11 ⟨275,31,275,32⟩) (.bi .range ⟨275,36,275,41⟩ (.cons (.int (5) 0 ⟨275,42,275,43⟩) .nil) ⟨275,36,275,44⟩) (.cons (.cmp .isIn (.item (.var 35 ⟨275,48,275,52⟩) (.var 11 ⟨275,53,275,54⟩) ⟨275,48,275,55⟩) (.var 36 ⟨275,59,275,63⟩) ⟨275,48,275,63⟩) .nil) .nil) sc14 ⟨275,24,275,64⟩) (.cons (.var 19 ⟨275,66,275,70⟩) (.cons (.var 12 ⟨275,72,275,73⟩) .nil))) ⟨275,12,275,74⟩) ⟨275,4,275,74⟩)
noncomputable def Sl8 : Sm := (.ret (.ite (.cmp .eq (.var 30 ⟨276,25,276,30⟩) (.int (0) 0 ⟨276,34,276,35⟩) ⟨276,25,276,35⟩) (.cmp .eq (.var 33 ⟨276,11,276,16⟩) (.int (0) 0 ⟨276,20,276,21⟩) ⟨276,11,276,21⟩) (.cmp .eq (.bin .mod (.var 33 ⟨276,41,276,46⟩) (.var 30 ⟨276,49,276,54⟩) ⟨276,41,276,54⟩) (.int (0) 0 ⟨276,58,276,59⟩) ⟨276,41,276,59⟩) ⟨276,11,276,59⟩) ⟨276,4,276,59⟩)
noncomputable def bFlaw : Bl := (.cons Sl0 (.cons Sl1 (.cons Sl2 (.cons Sl3 (.cons Sl4 (.cons Sl5 (.cons Sl6 (.cons Sl7 (.cons Sl8 .nil)))))))))
noncomputable def pFlaw : List Nat := [9]
noncomputable def sFfspath : Scope := ⟨.function, [("path", .local), ("kind", .local), ("hook", .local), ("given", .local), ("type", .globalImplicit), ("issubclass", .globalImplicit), ("str", .globalImplicit), ("bytes", .globalImplicit), ("_abc_plain_meta", .globalImplicit), ("getattr", .globalImplicit), ("TypeError", .globalImplicit), ("_plain_name", .globalImplicit), ("_wall", .globalImplicit), ("len", .globalImplicit)], false, false, (recAt pw "fspath").scope.more⟩
noncomputable def sF_get_sep : Scope := ⟨.function, [("path", .local), ("isinstance", .globalImplicit), ("bytes", .globalImplicit)], false, false, (recAt pw "_get_sep").scope.more⟩
noncomputable def sFjoin : Scope := ⟨.function, [("a", .local), ("p", .local), ("sep", .local), ("path", .local), ("b", .local), ("fspath", .globalImplicit), ("_get_sep", .globalImplicit), ("TypeError", .globalImplicit), ("AttributeError", .globalImplicit), ("BytesWarning", .globalImplicit), ("_check_arg_types", .globalImplicit)], false, false, (recAt pw "join").scope.more⟩
noncomputable def sFbasename : Scope := ⟨.function, [("p", .local), ("sep", .local), ("i", .local), ("fspath", .globalImplicit), ("_get_sep", .globalImplicit)], false, false, (recAt pw "basename").scope.more⟩
noncomputable def sFdirname : Scope := ⟨.function, [("p", .local), ("sep", .local), ("i", .local), ("head", .local), ("fspath", .globalImplicit), ("_get_sep", .globalImplicit), ("len", .globalImplicit)], false, false, (recAt pw "dirname").scope.more⟩
noncomputable def sF_escape_cdata : Scope := ⟨.function, [("text", .local), ("TypeError", .globalImplicit), ("AttributeError", .globalImplicit), ("_raise_serialization_error", .globalImplicit)], false, false, (recAt pw "_escape_cdata").scope.more⟩
noncomputable def sF_escape_attrib : Scope := ⟨.function, [("text", .local), ("TypeError", .globalImplicit), ("AttributeError", .globalImplicit), ("_raise_serialization_error", .globalImplicit)], false, false, (recAt pw "_escape_attrib").scope.more⟩
noncomputable def sF_escape_attrib_html : Scope := ⟨.function, [("text", .local), ("TypeError", .globalImplicit), ("AttributeError", .globalImplicit), ("_raise_serialization_error", .globalImplicit)], false, false, (recAt pw "_escape_attrib_html").scope.more⟩
noncomputable def sF_escape_cdata_c14n : Scope := ⟨.function, [("text", .local), ("TypeError", .globalImplicit), ("AttributeError", .globalImplicit), ("_raise_serialization_error", .globalImplicit)], false, false, (recAt pw "_escape_cdata_c14n").scope.more⟩
noncomputable def sF_escape_attrib_c14n : Scope := ⟨.function, [("text", .local), ("TypeError", .globalImplicit), ("AttributeError", .globalImplicit), ("_raise_serialization_error", .globalImplicit)], false, false, (recAt pw "_escape_attrib_c14n").scope.more⟩
noncomputable def sF_law_drawn : Scope := ⟨.function, [("script", .local), ("cells", .cell), ("k", .local), ("x", .local), ("pool", .cell), ("texts", .local), ("pairs", .cell), ("near", .local), ("enumerate", .globalImplicit), ("range", .globalImplicit)], false, false, (recAt pw "_law_drawn").scope.more⟩
noncomputable def sF_law_told : Scope := ⟨.function, [("text", .local), ("kind", .cell), ("forms", .cell)], false, false, (recAt pw "_law_told").scope.more⟩
noncomputable def sF_law_written : Scope := ⟨.function, [("text", .local), ("kind", .local), ("_escape_cdata", .globalImplicit), ("_escape_cdata_c14n", .globalImplicit), ("_escape_attrib", .globalImplicit), ("_escape_attrib_c14n", .globalImplicit), ("_escape_attrib_html", .globalImplicit)], false, false, (recAt pw "_law_written").scope.more⟩
noncomputable def sF_law_ways : Scope := ⟨.function, [("way", .local), ("near", .local), ("names", .cell), ("k", .local), ("ways", .local), ("_law_ways", .globalImplicit)], false, false, (recAt pw "_law_ways").scope.more⟩
noncomputable def sF_law_tree : Scope := ⟨.function, [("names", .cell), ("near", .cell), ("known", .local), ("paths", .local), ("seen", .local), ("path", .local), ("one", .local), ("range", .globalImplicit), ("join", .globalImplicit), ("min", .globalImplicit), ("len", .globalImplicit), ("sorted_list_difference", .globalImplicit), ("basename", .globalImplicit), ("sorted", .globalImplicit)], false, false, (recAt pw "_law_tree").scope.more⟩
noncomputable def sF_law_paired : Scope := ⟨.function, [("left", .local), ("near", .local), ("x", .local), ("count", .local), ("k", .cell), ("_law_paired", .globalImplicit)], false, false, (recAt pw "_law_paired").scope.more⟩
noncomputable def sF_law_folders : Scope := ⟨.function, [("paths", .local), ("x", .local), ("path", .local), ("alone", .local), ("paired", .local), ("whole", .local), ("above", .local), ("sorted", .globalImplicit), ("dirname", .globalImplicit)], false, false, (recAt pw "_law_folders").scope.more⟩
noncomputable def sFlaw : Scope := ⟨.function, [("script", .local), ("kind", .cell), ("texts", .local), ("near", .local), ("x", .local), ("paths", .local), ("told", .cell), ("whole", .local), ("alone", .local), ("ends", .cell), ("count", .local), ("_law_drawn", .globalImplicit), ("_law_tree", .globalImplicit), ("sorted", .globalImplicit), ("_law_ways", .globalImplicit), ("_law_folders", .globalImplicit), ("_law_paired", .globalImplicit), ("range", .globalImplicit)], false, false, (recAt pw "law").scope.more⟩
end L1
end
section
namespace L1
noncomputable def nm : Nat → Str := nmOf tbl
noncomputable def fns : List Str := [Str.ofString "fspath", Str.ofString "_get_sep", Str.ofString "join", Str.ofString "basename", Str.ofString "dirname", Str.ofString "sorted_list_difference", Str.ofString "_escape_cdata", Str.ofString "_escape_attrib", Str.ofString "_escape_attrib_html", Str.ofString "_escape_cdata_c14n", Str.ofString "_escape_attrib_c14n", Str.ofString "_law_drawn", Str.ofString "_law_told", Str.ofString "_law_written", Str.ofString "_law_ways", Str.ofString "_law_ways", Str.ofString "_law_ways", Str.ofString "_law_ways", Str.ofString "_law_ways", Str.ofString "_law_tree", Str.ofString "_law_paired", Str.ofString "_law_paired", Str.ofString "_law_paired", Str.ofString "_law_paired", Str.ofString "_law_paired", Str.ofString "_law_paired", Str.ofString "_law_folders", Str.ofString "law"]
noncomputable def fn : Nat → Str := nmOf fns
theorem nm_inj : ∀ i j, nm i = nm j → i = j := nmOf_inj (by decide +kernel) (by decide +kernel)
theorem nm_nmd : ∀ i, (nm i == "__debug__") = false ∧ (nm i == "__classdict__") = false := fun i => ⟨nmOf_ne (by decide +kernel) (by decide +kernel) i, nmOf_ne (by decide +kernel) (by decide +kernel) i⟩
theorem fn_fnd : ∀ i, (fn i == "__debug__") = false := fun i => nmOf_ne (by decide +kernel) (by decide +kernel) i
section
variable {prog : Program} {w : World}
noncomputable def dFfspath : FD := ⟨Str.ofString "fspath", true, sFfspath, bFfspath, pFfspath, (pdN 1)⟩
theorem tFfspath : Fun prog w nm fn (recAt pw "fspath").name (recAt pw "fspath").params (recAt pw "fspath").body dFfspath.sc dFfspath.b dFfspath.ps dFfspath.pd where
 bodyEq := by rfl
 nodup := by decide +kernel
 pnames := by decide +kernel
 kind := rfl
 names := by decide +kernel
 free := by decide +kernel
 put := by decide +kernel
 co := rfl
 gen := rfl
 bind := fun pm code doc => bind_plain 1 rfl fun us hu => by rcases us with _ | ⟨a, _ | ⟨b, r⟩⟩ <;> first | rfl | (simp at hu)
theorem nFfspath : (recAt pw "fspath").name = Str.ofString "fspath" ∧ (recAt pw "fspath").scope = dFfspath.sc := ⟨by rfl, by rfl⟩
noncomputable def dF_get_sep : FD := ⟨Str.ofString "_get_sep", true, sF_get_sep, bF_get_sep, pF_get_sep, (pdN 1)⟩
theorem tF_get_sep : Fun prog w nm fn (recAt pw "_get_sep").name (recAt pw "_get_sep").params (recAt pw "_get_sep").body dF_get_sep.sc dF_get_sep.b dF_get_sep.ps dF_get_sep.pd where
 bodyEq := by rfl
 nodup := by decide +kernel
 pnames := by decide +kernel
 kind := rfl
 names := by decide +kernel
 free := by decide +kernel
 put := by decide +kernel
 co := rfl
 gen := rfl
 bind := fun pm code doc => bind_plain 1 rfl fun us hu => by rcases us with _ | ⟨a, _ | ⟨b, r⟩⟩ <;> first | rfl | (simp at hu)
theorem nF_get_sep : (recAt pw "_get_sep").name = Str.ofString "_get_sep" ∧ (recAt pw "_get_sep").scope = dF_get_sep.sc := ⟨by rfl, by rfl⟩
noncomputable def dFjoin : FD := ⟨Str.ofString "join", true, sFjoin, bFjoin, pFjoin, pdJoin⟩
theorem tFjoin : Fun prog w nm fn (recAt pw "join").name (recAt pw "join").params (recAt pw "join").body dFjoin.sc dFjoin.b dFjoin.ps dFjoin.pd where
 bodyEq := by rfl
 nodup := by decide +kernel
 pnames := by decide +kernel
 kind := rfl
 names := by decide +kernel
 free := by decide +kernel
 put := by decide +kernel
 co := rfl
 gen := rfl
 bind := fun pm code doc => bind_join rfl fun v u => by rfl
theorem nFjoin : (recAt pw "join").name = Str.ofString "join" ∧ (recAt pw "join").scope = dFjoin.sc := ⟨by rfl, by rfl⟩
noncomputable def dFbasename : FD := ⟨Str.ofString "basename", true, sFbasename, bFbasename, pFbasename, (pdN 1)⟩
theorem tFbasename : Fun prog w nm fn (recAt pw "basename").name (recAt pw "basename").params (recAt pw "basename").body dFbasename.sc dFbasename.b dFbasename.ps dFbasename.pd where
 bodyEq := by rfl
 nodup := by decide +kernel
 pnames := by decide +kernel
 kind := rfl
 names := by decide +kernel
 free := by decide +kernel
 put := by decide +kernel
 co := rfl
 gen := rfl
 bind := fun pm code doc => bind_plain 1 rfl fun us hu => by rcases us with _ | ⟨a, _ | ⟨b, r⟩⟩ <;> first | rfl | (simp at hu)
theorem nFbasename : (recAt pw "basename").name = Str.ofString "basename" ∧ (recAt pw "basename").scope = dFbasename.sc := ⟨by rfl, by rfl⟩
noncomputable def dFdirname : FD := ⟨Str.ofString "dirname", true, sFdirname, bFdirname, pFdirname, (pdN 1)⟩
theorem tFdirname : Fun prog w nm fn (recAt pw "dirname").name (recAt pw "dirname").params (recAt pw "dirname").body dFdirname.sc dFdirname.b dFdirname.ps dFdirname.pd where
 bodyEq := by rfl
 nodup := by decide +kernel
 pnames := by decide +kernel
 kind := rfl
 names := by decide +kernel
 free := by decide +kernel
 put := by decide +kernel
 co := rfl
 gen := rfl
 bind := fun pm code doc => bind_plain 1 rfl fun us hu => by rcases us with _ | ⟨a, _ | ⟨b, r⟩⟩ <;> first | rfl | (simp at hu)
theorem nFdirname : (recAt pw "dirname").name = Str.ofString "dirname" ∧ (recAt pw "dirname").scope = dFdirname.sc := ⟨by rfl, by rfl⟩
noncomputable def dF_escape_cdata : FD := ⟨Str.ofString "_escape_cdata", true, sF_escape_cdata, bF_escape_cdata, pF_escape_cdata, (pdN 1)⟩
theorem tF_escape_cdata : Fun prog w nm fn (recAt pw "_escape_cdata").name (recAt pw "_escape_cdata").params (recAt pw "_escape_cdata").body dF_escape_cdata.sc dF_escape_cdata.b dF_escape_cdata.ps dF_escape_cdata.pd where
 bodyEq := by rfl
 nodup := by decide +kernel
 pnames := by decide +kernel
 kind := rfl
 names := by decide +kernel
 free := by decide +kernel
 put := by decide +kernel
 co := rfl
 gen := rfl
 bind := fun pm code doc => bind_plain 1 rfl fun us hu => by rcases us with _ | ⟨a, _ | ⟨b, r⟩⟩ <;> first | rfl | (simp at hu)
theorem nF_escape_cdata : (recAt pw "_escape_cdata").name = Str.ofString "_escape_cdata" ∧ (recAt pw "_escape_cdata").scope = dF_escape_cdata.sc := ⟨by rfl, by rfl⟩
noncomputable def dF_escape_attrib : FD := ⟨Str.ofString "_escape_attrib", true, sF_escape_attrib, bF_escape_attrib, pF_escape_attrib, (pdN 1)⟩
theorem tF_escape_attrib : Fun prog w nm fn (recAt pw "_escape_attrib").name (recAt pw "_escape_attrib").params (recAt pw "_escape_attrib").body dF_escape_attrib.sc dF_escape_attrib.b dF_escape_attrib.ps dF_escape_attrib.pd where
 bodyEq := by rfl
 nodup := by decide +kernel
 pnames := by decide +kernel
 kind := rfl
 names := by decide +kernel
 free := by decide +kernel
 put := by decide +kernel
 co := rfl
 gen := rfl
 bind := fun pm code doc => bind_plain 1 rfl fun us hu => by rcases us with _ | ⟨a, _ | ⟨b, r⟩⟩ <;> first | rfl | (simp at hu)
theorem nF_escape_attrib : (recAt pw "_escape_attrib").name = Str.ofString "_escape_attrib" ∧ (recAt pw "_escape_attrib").scope = dF_escape_attrib.sc := ⟨by rfl, by rfl⟩
noncomputable def dF_escape_attrib_html : FD := ⟨Str.ofString "_escape_attrib_html", true, sF_escape_attrib_html, bF_escape_attrib_html, pF_escape_attrib_html, (pdN 1)⟩
theorem tF_escape_attrib_html : Fun prog w nm fn (recAt pw "_escape_attrib_html").name (recAt pw "_escape_attrib_html").params (recAt pw "_escape_attrib_html").body dF_escape_attrib_html.sc dF_escape_attrib_html.b dF_escape_attrib_html.ps dF_escape_attrib_html.pd where
 bodyEq := by rfl
 nodup := by decide +kernel
 pnames := by decide +kernel
 kind := rfl
 names := by decide +kernel
 free := by decide +kernel
 put := by decide +kernel
 co := rfl
 gen := rfl
 bind := fun pm code doc => bind_plain 1 rfl fun us hu => by rcases us with _ | ⟨a, _ | ⟨b, r⟩⟩ <;> first | rfl | (simp at hu)
theorem nF_escape_attrib_html : (recAt pw "_escape_attrib_html").name = Str.ofString "_escape_attrib_html" ∧ (recAt pw "_escape_attrib_html").scope = dF_escape_attrib_html.sc := ⟨by rfl, by rfl⟩
noncomputable def dF_escape_cdata_c14n : FD := ⟨Str.ofString "_escape_cdata_c14n", true, sF_escape_cdata_c14n, bF_escape_cdata_c14n, pF_escape_cdata_c14n, (pdN 1)⟩
theorem tF_escape_cdata_c14n : Fun prog w nm fn (recAt pw "_escape_cdata_c14n").name (recAt pw "_escape_cdata_c14n").params (recAt pw "_escape_cdata_c14n").body dF_escape_cdata_c14n.sc dF_escape_cdata_c14n.b dF_escape_cdata_c14n.ps dF_escape_cdata_c14n.pd where
 bodyEq := by rfl
 nodup := by decide +kernel
 pnames := by decide +kernel
 kind := rfl
 names := by decide +kernel
 free := by decide +kernel
 put := by decide +kernel
 co := rfl
 gen := rfl
 bind := fun pm code doc => bind_plain 1 rfl fun us hu => by rcases us with _ | ⟨a, _ | ⟨b, r⟩⟩ <;> first | rfl | (simp at hu)
theorem nF_escape_cdata_c14n : (recAt pw "_escape_cdata_c14n").name = Str.ofString "_escape_cdata_c14n" ∧ (recAt pw "_escape_cdata_c14n").scope = dF_escape_cdata_c14n.sc := ⟨by rfl, by rfl⟩
noncomputable def dF_escape_attrib_c14n : FD := ⟨Str.ofString "_escape_attrib_c14n", true, sF_escape_attrib_c14n, bF_escape_attrib_c14n, pF_escape_attrib_c14n, (pdN 1)⟩
theorem tF_escape_attrib_c14n : Fun prog w nm fn (recAt pw "_escape_attrib_c14n").name (recAt pw "_escape_attrib_c14n").params (recAt pw "_escape_attrib_c14n").body dF_escape_attrib_c14n.sc dF_escape_attrib_c14n.b dF_escape_attrib_c14n.ps dF_escape_attrib_c14n.pd where
 bodyEq := by rfl
 nodup := by decide +kernel
 pnames := by decide +kernel
 kind := rfl
 names := by decide +kernel
 free := by decide +kernel
 put := by decide +kernel
 co := rfl
 gen := rfl
 bind := fun pm code doc => bind_plain 1 rfl fun us hu => by rcases us with _ | ⟨a, _ | ⟨b, r⟩⟩ <;> first | rfl | (simp at hu)
theorem nF_escape_attrib_c14n : (recAt pw "_escape_attrib_c14n").name = Str.ofString "_escape_attrib_c14n" ∧ (recAt pw "_escape_attrib_c14n").scope = dF_escape_attrib_c14n.sc := ⟨by rfl, by rfl⟩
noncomputable def dF_law_drawn : FD := ⟨Str.ofString "_law_drawn", true, sF_law_drawn, bF_law_drawn, pF_law_drawn, (pdN 1)⟩
theorem tF_law_drawn : Fun prog w nm fn (recAt pw "_law_drawn").name (recAt pw "_law_drawn").params (recAt pw "_law_drawn").body dF_law_drawn.sc dF_law_drawn.b dF_law_drawn.ps dF_law_drawn.pd where
 bodyEq := by rfl
 nodup := by decide +kernel
 pnames := by decide +kernel
 kind := rfl
 names := by decide +kernel
 free := by decide +kernel
 put := by decide +kernel
 co := rfl
 gen := rfl
 bind := fun pm code doc => bind_plain 1 rfl fun us hu => by rcases us with _ | ⟨a, _ | ⟨b, r⟩⟩ <;> first | rfl | (simp at hu)
theorem nF_law_drawn : (recAt pw "_law_drawn").name = Str.ofString "_law_drawn" ∧ (recAt pw "_law_drawn").scope = dF_law_drawn.sc := ⟨by rfl, by rfl⟩
noncomputable def dF_law_told : FD := ⟨Str.ofString "_law_told", true, sF_law_told, bF_law_told, pF_law_told, (pdN 2)⟩
theorem tF_law_told : Fun prog w nm fn (recAt pw "_law_told").name (recAt pw "_law_told").params (recAt pw "_law_told").body dF_law_told.sc dF_law_told.b dF_law_told.ps dF_law_told.pd where
 bodyEq := by rfl
 nodup := by decide +kernel
 pnames := by decide +kernel
 kind := rfl
 names := by decide +kernel
 free := by decide +kernel
 put := by decide +kernel
 co := rfl
 gen := rfl
 bind := fun pm code doc => bind_plain 2 rfl fun us hu => by rcases us with _ | ⟨a, _ | ⟨b, _ | ⟨c, r⟩⟩⟩ <;> first | rfl | (simp at hu)
theorem nF_law_told : (recAt pw "_law_told").name = Str.ofString "_law_told" ∧ (recAt pw "_law_told").scope = dF_law_told.sc := ⟨by rfl, by rfl⟩
noncomputable def dF_law_written : FD := ⟨Str.ofString "_law_written", true, sF_law_written, bF_law_written, pF_law_written, (pdN 2)⟩
theorem tF_law_written : Fun prog w nm fn (recAt pw "_law_written").name (recAt pw "_law_written").params (recAt pw "_law_written").body dF_law_written.sc dF_law_written.b dF_law_written.ps dF_law_written.pd where
 bodyEq := by rfl
 nodup := by decide +kernel
 pnames := by decide +kernel
 kind := rfl
 names := by decide +kernel
 free := by decide +kernel
 put := by decide +kernel
 co := rfl
 gen := rfl
 bind := fun pm code doc => bind_plain 2 rfl fun us hu => by rcases us with _ | ⟨a, _ | ⟨b, _ | ⟨c, r⟩⟩⟩ <;> first | rfl | (simp at hu)
theorem nF_law_written : (recAt pw "_law_written").name = Str.ofString "_law_written" ∧ (recAt pw "_law_written").scope = dF_law_written.sc := ⟨by rfl, by rfl⟩
noncomputable def dF_law_ways0 : FD := ⟨Str.ofString "_law_ways", true, sF_law_ways, bF_law_ways 14, pF_law_ways, (pdN 3)⟩
theorem tF_law_ways0 : Fun prog w nm fn (recAt pw "_law_ways").name (recAt pw "_law_ways").params (recAt pw "_law_ways").body dF_law_ways0.sc dF_law_ways0.b dF_law_ways0.ps dF_law_ways0.pd where
 bodyEq := by rfl
 nodup := by decide +kernel
 pnames := by decide +kernel
 kind := rfl
 names := by decide +kernel
 free := by decide +kernel
 put := by decide +kernel
 co := rfl
 gen := rfl
 bind := fun pm code doc => bind_plain 3 rfl fun us hu => by rcases us with _ | ⟨a, _ | ⟨b, _ | ⟨c, _ | ⟨d, r⟩⟩⟩⟩ <;> first | rfl | (simp at hu)
theorem nF_law_ways0 : (recAt pw "_law_ways").name = Str.ofString "_law_ways" ∧ (recAt pw "_law_ways").scope = dF_law_ways0.sc := ⟨by rfl, by rfl⟩
noncomputable def dF_law_ways1 : FD := ⟨Str.ofString "_law_ways", true, sF_law_ways, bF_law_ways 14, pF_law_ways, (pdN 3)⟩
theorem tF_law_ways1 : Fun prog w nm fn (recAt pw "_law_ways").name (recAt pw "_law_ways").params (recAt pw "_law_ways").body dF_law_ways1.sc dF_law_ways1.b dF_law_ways1.ps dF_law_ways1.pd := { tF_law_ways0 with bodyEq := by rfl }
noncomputable def dF_law_ways2 : FD := ⟨Str.ofString "_law_ways", true, sF_law_ways, bF_law_ways 15, pF_law_ways, (pdN 3)⟩
theorem tF_law_ways2 : Fun prog w nm fn (recAt pw "_law_ways").name (recAt pw "_law_ways").params (recAt pw "_law_ways").body dF_law_ways2.sc dF_law_ways2.b dF_law_ways2.ps dF_law_ways2.pd := { tF_law_ways0 with bodyEq := by rfl }
noncomputable def dF_law_ways3 : FD := ⟨Str.ofString "_law_ways", true, sF_law_ways, bF_law_ways 16, pF_law_ways, (pdN 3)⟩
theorem tF_law_ways3 : Fun prog w nm fn (recAt pw "_law_ways").name (recAt pw "_law_ways").params (recAt pw "_law_ways").body dF_law_ways3.sc dF_law_ways3.b dF_law_ways3.ps dF_law_ways3.pd := { tF_law_ways0 with bodyEq := by rfl }
noncomputable def dF_law_ways4 : FD := ⟨Str.ofString "_law_ways", true, sF_law_ways, bF_law_ways 17, pF_law_ways, (pdN 3)⟩
theorem tF_law_ways4 : Fun prog w nm fn (recAt pw "_law_ways").name (recAt pw "_law_ways").params (recAt pw "_law_ways").body dF_law_ways4.sc dF_law_ways4.b dF_law_ways4.ps dF_law_ways4.pd := { tF_law_ways0 with bodyEq := by rfl }
noncomputable def dF_law_tree : FD := ⟨Str.ofString "_law_tree", false, sF_law_tree, bF_law_tree, pF_law_tree, (pdN 2)⟩
theorem tF_law_tree : Fun prog w nm fn (recAt pw "_law_tree").name (recAt pw "_law_tree").params (recAt pw "_law_tree").body dF_law_tree.sc dF_law_tree.b dF_law_tree.ps dF_law_tree.pd where
 bodyEq := by rfl
 nodup := by decide +kernel
 pnames := by decide +kernel
 kind := rfl
 names := by decide +kernel
 free := by decide +kernel
 put := by decide +kernel
 co := rfl
 gen := rfl
 bind := fun pm code doc => bind_plain 2 rfl fun us hu => by rcases us with _ | ⟨a, _ | ⟨b, _ | ⟨c, r⟩⟩⟩ <;> first | rfl | (simp at hu)
theorem nF_law_tree : (recAt pw "_law_tree").name = Str.ofString "_law_tree" ∧ (recAt pw "_law_tree").scope = dF_law_tree.sc := ⟨by rfl, by rfl⟩
noncomputable def dF_law_paired0 : FD := ⟨Str.ofString "_law_paired", true, sF_law_paired, bF_law_paired 20, pF_law_paired, (pdN 3)⟩
theorem tF_law_paired0 : Fun prog w nm fn (recAt pw "_law_paired").name (recAt pw "_law_paired").params (recAt pw "_law_paired").body dF_law_paired0.sc dF_law_paired0.b dF_law_paired0.ps dF_law_paired0.pd where
 bodyEq := by rfl
 nodup := by decide +kernel
 pnames := by decide +kernel
 kind := rfl
 names := by decide +kernel
 free := by decide +kernel
 put := by decide +kernel
 co := rfl
 gen := rfl
 bind := fun pm code doc => bind_plain 3 rfl fun us hu => by rcases us with _ | ⟨a, _ | ⟨b, _ | ⟨c, _ | ⟨d, r⟩⟩⟩⟩ <;> first | rfl | (simp at hu)
theorem nF_law_paired0 : (recAt pw "_law_paired").name = Str.ofString "_law_paired" ∧ (recAt pw "_law_paired").scope = dF_law_paired0.sc := ⟨by rfl, by rfl⟩
noncomputable def dF_law_paired1 : FD := ⟨Str.ofString "_law_paired", true, sF_law_paired, bF_law_paired 20, pF_law_paired, (pdN 3)⟩
theorem tF_law_paired1 : Fun prog w nm fn (recAt pw "_law_paired").name (recAt pw "_law_paired").params (recAt pw "_law_paired").body dF_law_paired1.sc dF_law_paired1.b dF_law_paired1.ps dF_law_paired1.pd := { tF_law_paired0 with bodyEq := by rfl }
noncomputable def dF_law_paired2 : FD := ⟨Str.ofString "_law_paired", true, sF_law_paired, bF_law_paired 21, pF_law_paired, (pdN 3)⟩
theorem tF_law_paired2 : Fun prog w nm fn (recAt pw "_law_paired").name (recAt pw "_law_paired").params (recAt pw "_law_paired").body dF_law_paired2.sc dF_law_paired2.b dF_law_paired2.ps dF_law_paired2.pd := { tF_law_paired0 with bodyEq := by rfl }
noncomputable def dF_law_paired3 : FD := ⟨Str.ofString "_law_paired", true, sF_law_paired, bF_law_paired 22, pF_law_paired, (pdN 3)⟩
theorem tF_law_paired3 : Fun prog w nm fn (recAt pw "_law_paired").name (recAt pw "_law_paired").params (recAt pw "_law_paired").body dF_law_paired3.sc dF_law_paired3.b dF_law_paired3.ps dF_law_paired3.pd := { tF_law_paired0 with bodyEq := by rfl }
noncomputable def dF_law_paired4 : FD := ⟨Str.ofString "_law_paired", true, sF_law_paired, bF_law_paired 23, pF_law_paired, (pdN 3)⟩
theorem tF_law_paired4 : Fun prog w nm fn (recAt pw "_law_paired").name (recAt pw "_law_paired").params (recAt pw "_law_paired").body dF_law_paired4.sc dF_law_paired4.b dF_law_paired4.ps dF_law_paired4.pd := { tF_law_paired0 with bodyEq := by rfl }
noncomputable def dF_law_paired5 : FD := ⟨Str.ofString "_law_paired", true, sF_law_paired, bF_law_paired 24, pF_law_paired, (pdN 3)⟩
theorem tF_law_paired5 : Fun prog w nm fn (recAt pw "_law_paired").name (recAt pw "_law_paired").params (recAt pw "_law_paired").body dF_law_paired5.sc dF_law_paired5.b dF_law_paired5.ps dF_law_paired5.pd := { tF_law_paired0 with bodyEq := by rfl }
noncomputable def dF_law_folders : FD := ⟨Str.ofString "_law_folders", true, sF_law_folders, bF_law_folders, pF_law_folders, (pdN 2)⟩
theorem tF_law_folders : Fun prog w nm fn (recAt pw "_law_folders").name (recAt pw "_law_folders").params (recAt pw "_law_folders").body dF_law_folders.sc dF_law_folders.b dF_law_folders.ps dF_law_folders.pd where
 bodyEq := by rfl
 nodup := by decide +kernel
 pnames := by decide +kernel
 kind := rfl
 names := by decide +kernel
 free := by decide +kernel
 put := by decide +kernel
 co := rfl
 gen := rfl
 bind := fun pm code doc => bind_plain 2 rfl fun us hu => by rcases us with _ | ⟨a, _ | ⟨b, _ | ⟨c, r⟩⟩⟩ <;> first | rfl | (simp at hu)
theorem nF_law_folders : (recAt pw "_law_folders").name = Str.ofString "_law_folders" ∧ (recAt pw "_law_folders").scope = dF_law_folders.sc := ⟨by rfl, by rfl⟩
noncomputable def dFlaw : FD := ⟨Str.ofString "law", false, sFlaw, bFlaw, pFlaw, (pdN 1)⟩
theorem tFlaw : Fun prog w nm fn (recAt pw "law").name (recAt pw "law").params (recAt pw "law").body dFlaw.sc dFlaw.b dFlaw.ps dFlaw.pd where
 bodyEq := by rfl
 nodup := by decide +kernel
 pnames := by decide +kernel
 kind := rfl
 names := by decide +kernel
 free := by decide +kernel
 put := by decide +kernel
 co := rfl
 gen := rfl
 bind := fun pm code doc => bind_plain 1 rfl fun us hu => by rcases us with _ | ⟨a, _ | ⟨b, r⟩⟩ <;> first | rfl | (simp at hu)
theorem nFlaw : (recAt pw "law").name = Str.ofString "law" ∧ (recAt pw "law").scope = dFlaw.sc := ⟨by rfl, by rfl⟩
end
end L1
end
section
namespace L1
noncomputable def FT0 : List FE := []
noncomputable def FT1 : List FE := FT0 ++ [dFfspath.fe nm fn FT0]
noncomputable def FT2 : List FE := FT1 ++ [dF_get_sep.fe nm fn FT1]
noncomputable def FT3 : List FE := FT2 ++ [dFjoin.fe nm fn FT2]
noncomputable def FT4 : List FE := FT3 ++ [dFbasename.fe nm fn FT3]
noncomputable def FT5 : List FE := FT4 ++ [dFdirname.fe nm fn FT4]
noncomputable def FT6 : List FE := FT5 ++ [sldFE]
noncomputable def FT7 : List FE := FT6 ++ [dF_escape_cdata.fe nm fn FT6]
noncomputable def FT8 : List FE := FT7 ++ [dF_escape_attrib.fe nm fn FT7]
noncomputable def FT9 : List FE := FT8 ++ [dF_escape_attrib_html.fe nm fn FT8]
noncomputable def FT10 : List FE := FT9 ++ [dF_escape_cdata_c14n.fe nm fn FT9]
noncomputable def FT11 : List FE := FT10 ++ [dF_escape_attrib_c14n.fe nm fn FT10]
noncomputable def FT12 : List FE := FT11 ++ [dF_law_drawn.fe nm fn FT11]
noncomputable def FT13 : List FE := FT12 ++ [dF_law_told.fe nm fn FT12]
noncomputable def FT14 : List FE := FT13 ++ [dF_law_written.fe nm fn FT13]
noncomputable def FT15 : List FE := FT14 ++ [dF_law_ways0.fe nm fn FT14]
noncomputable def FT16 : List FE := FT15 ++ [dF_law_ways1.fe nm fn FT15]
noncomputable def FT17 : List FE := FT16 ++ [dF_law_ways2.fe nm fn FT16]
noncomputable def FT18 : List FE := FT17 ++ [dF_law_ways3.fe nm fn FT17]
noncomputable def FT19 : List FE := FT18 ++ [dF_law_ways4.fe nm fn FT18]
noncomputable def FT20 : List FE := FT19 ++ [dF_law_tree.fe nm fn FT19]
noncomputable def FT21 : List FE := FT20 ++ [dF_law_paired0.fe nm fn FT20]
noncomputable def FT22 : List FE := FT21 ++ [dF_law_paired1.fe nm fn FT21]
noncomputable def FT23 : List FE := FT22 ++ [dF_law_paired2.fe nm fn FT22]
noncomputable def FT24 : List FE := FT23 ++ [dF_law_paired3.fe nm fn FT23]
noncomputable def FT25 : List FE := FT24 ++ [dF_law_paired4.fe nm fn FT24]
noncomputable def FT26 : List FE := FT25 ++ [dF_law_paired5.fe nm fn FT25]
noncomputable def FT27 : List FE := FT26 ++ [dF_law_folders.fe nm fn FT26]
noncomputable def FT28 : List FE := FT27 ++ [dFlaw.fe nm fn FT27]
end L1
end
section
noncomputable def swapC (nm : Nat → Str) (i : Nat) (sc' : Scope) : Bool := !(sc'.names.any fun (n, k) => n == nm i && (k == .local || k == .cell))
theorem Q.swl (nm : Nat → Str) (i : Nat) (e : X) (gs : GS) (sc' : Scope) (p : Pos) : swapOk nm i (.lcomp e gs sc' p) = swapC nm i sc' := rfl
theorem Q.swd (nm : Nat → Str) (i : Nat) (k v : X) (gs : GS) (sc' : Scope) (p : Pos) : swapOk nm i (.dcomp k v gs sc' p) = swapC nm i sc' := rfl
end
section
namespace L1
theorem kfspath : putK nm sFfspath 1 = true ∧
  isG sFfspath (Bi.py .type) = true ∧
  isG sFfspath (Str.ofString "issubclass") = true ∧
  isG sFfspath (Str.ofString "str") = true ∧
  isG sFfspath (Str.ofString "bytes") = true := by
 exact ⟨by decide +kernel, by decide +kernel, by decide +kernel, by decide +kernel, by decide +kernel⟩
theorem k_get_sep : isG sF_get_sep (Str.ofString "isinstance") = true ∧
  isG sF_get_sep (Str.ofString "bytes") = true := by
 exact ⟨by decide +kernel, by decide +kernel⟩
theorem kjoin : putK nm sFjoin 2 = true ∧
  isG sFjoin (fn 0) = true ∧
  putK nm sFjoin 4 = true ∧
  isG sFjoin (fn 1) = true ∧
  putK nm sFjoin 0 = true ∧
  putK nm sFjoin 5 = true := by
 exact ⟨by decide +kernel, by decide +kernel, by decide +kernel, by decide +kernel, by decide +kernel, by decide +kernel⟩
theorem kbasename : putK nm sFbasename 3 = true ∧
  isG sFbasename (fn 0) = true ∧
  putK nm sFbasename 4 = true ∧
  isG sFbasename (fn 1) = true ∧
  putK nm sFbasename 6 = true := by
 exact ⟨by decide +kernel, by decide +kernel, by decide +kernel, by decide +kernel, by decide +kernel⟩
theorem kdirname : putK nm sFdirname 3 = true ∧
  isG sFdirname (fn 0) = true ∧
  putK nm sFdirname 4 = true ∧
  isG sFdirname (fn 1) = true ∧
  putK nm sFdirname 6 = true ∧
  putK nm sFdirname 7 = true ∧
  isG sFdirname (Bi.py .len) = true := by
 exact ⟨by decide +kernel, by decide +kernel, by decide +kernel, by decide +kernel, by decide +kernel, by decide +kernel, by decide +kernel⟩
theorem k_law_drawn : putK nm sF_law_drawn 10 = true ∧
  putK nm sF_law_drawn 11 = true ∧
  putK nm sF_law_drawn 12 = true ∧
  isG sF_law_drawn (Bi.py .enumerate) = true ∧
  putK nm sF_law_drawn 13 = true ∧
  putK nm sF_law_drawn 14 = true ∧
  swapC nm 14 sc0 = true ∧
  compOk sF_law_drawn sc0 = true ∧
  varsOk nm sc0 (.cons (.one 11 ⟨212,48,212,49⟩) (.bi .range ⟨212,53,212,58⟩ (.cons (.int (5) 0 ⟨212,59,212,60⟩) .nil) ⟨212,53,212,61⟩) .nil .nil) = true ∧
  (∀ r, inner nm sc0 r 10 = r 10) ∧
  (∀ r, inner nm sc0 r 13 = r 13) ∧
  isG sF_law_drawn (Bi.py .range) = true ∧
  putK nm sF_law_drawn 15 = true ∧
  swapC nm 15 sc1 = true ∧
  compOk sF_law_drawn sc1 = true ∧
  varsOk nm sc1 (.cons (.one 11 ⟨213,24,213,25⟩) (.bi .range ⟨213,29,213,34⟩ (.cons (.int (5) 0 ⟨213,35,213,36⟩) .nil) ⟨213,29,213,37⟩) .nil (.cons (.one 16 ⟨213,42,213,43⟩) (.bi .range ⟨213,47,213,52⟩ (.cons (.bin .add (.var 11 ⟨213,53,213,54⟩) (.int (1) 0 ⟨213,57,213,58⟩) ⟨213,53,213,58⟩) (.cons (.int (5) 0 ⟨213,60,213,61⟩) .nil)) ⟨213,47,213,62⟩) .nil .nil)) = true ∧
  isG (rel sF_law_drawn sc1) (Bi.py .range) = true ∧
  swapC nm 15 sc2 = true ∧
  compOk sF_law_drawn sc2 = true ∧
  varsOk nm sc2 (.cons (.two 18 ⟨214,22,214,27⟩ 17 ⟨214,29,214,33⟩ 0 ⟨214,22,214,33⟩) (.bi .enumerate ⟨214,37,214,46⟩ (.cons (.var 15 ⟨214,47,214,52⟩) .nil) ⟨214,37,214,53⟩) (.cons (.bin .band (.bin .rsh (.item (.var 10 ⟨214,57,214,62⟩) (.int (1) 0 ⟨214,63,214,64⟩) ⟨214,57,214,65⟩) (.var 18 ⟨214,69,214,74⟩) ⟨214,57,214,74⟩) (.int (1) 0 ⟨214,77,214,78⟩) ⟨214,57,214,78⟩) .nil) .nil) = true ∧
  (∀ r, inner nm sc2 r 10 = r 10) ∧
  putK nm sF_law_drawn 19 = true ∧
  swapC nm 19 sc4 = true ∧
  compOk sF_law_drawn sc4 = true ∧
  varsOk nm sc4 (.cons (.one 11 ⟨215,76,215,77⟩) (.bi .range ⟨215,81,215,86⟩ (.cons (.int (5) 0 ⟨215,87,215,88⟩) .nil) ⟨215,81,215,89⟩) .nil .nil) = true ∧
  (∀ r, inner nm sc4 r 15 = r 15) ∧
  compOk (rel sF_law_drawn sc4) sc3 = true ∧
  varsOk nm sc3 (.cons (.one 16 ⟨215,19,215,20⟩) (.bi .range ⟨215,24,215,29⟩ (.cons (.int (5) 0 ⟨215,30,215,31⟩) .nil) ⟨215,24,215,32⟩) (.cons (.or (.cmp .isIn (.tup (.cons (.var 11 ⟨215,37,215,38⟩) (.cons (.var 16 ⟨215,40,215,41⟩) .nil)) 0 ⟨215,36,215,42⟩) (.var 15 ⟨215,46,215,51⟩) ⟨215,36,215,51⟩) (.cmp .isIn (.tup (.cons (.var 16 ⟨215,56,215,57⟩) (.cons (.var 11 ⟨215,59,215,60⟩) .nil)) 0 ⟨215,55,215,61⟩) (.var 15 ⟨215,65,215,70⟩) ⟨215,55,215,70⟩) ⟨215,36,215,70⟩) .nil) .nil) = true ∧
  (∀ r, inner nm sc3 r 11 = r 11) ∧
  (∀ r, inner nm sc3 r 15 = r 15) ∧
  isG (rel sF_law_drawn sc4) (Bi.py .range) = true := by
 exact ⟨by decide +kernel, by decide +kernel, by decide +kernel, by decide +kernel, by decide +kernel, by decide +kernel, by decide +kernel, by decide +kernel, by decide +kernel, fun r => by first | rfl | (show (if _ then _ else _) = _; rw [if_pos (by decide +kernel)]), fun r => by first | rfl | (show (if _ then _ else _) = _; rw [if_pos (by decide +kernel)]), by decide +kernel, by decide +kernel, by decide +kernel, by decide +kernel, by decide +kernel, by decide +kernel, by decide +kernel, by decide +kernel, by decide +kernel, fun r => by first | rfl | (show (if _ then _ else _) = _; rw [if_pos (by decide +kernel)]), by decide +kernel, by decide +kernel, by decide +kernel, by decide +kernel, fun r => by first | rfl | (show (if _ then _ else _) = _; rw [if_pos (by decide +kernel)]), by decide +kernel, by decide +kernel, fun r => by first | rfl | (show (if _ then _ else _) = _; rw [if_pos (by decide +kernel)]), fun r => by first | rfl | (show (if _ then _ else _) = _; rw [if_pos (by decide +kernel)]), by decide +kernel⟩
theorem k_law_ways : putK nm sF_law_ways 24 = true ∧
  compOk sF_law_ways sc6 = true ∧
  varsOk nm sc6 (.cons (.one 11 ⟨231,40,231,41⟩) (.var 22 ⟨231,45,231,48⟩) .nil .nil) = true ∧
  (∀ r, inner nm sc6 r 23 = r 23) ∧
  putK nm sF_law_ways 11 = true ∧
  isG sF_law_ways (fn 14) = true ∧
  isG sF_law_ways (fn 15) = true ∧
  isG sF_law_ways (fn 16) = true ∧
  isG sF_law_ways (fn 17) = true := by
 exact ⟨by decide +kernel, by decide +kernel, by decide +kernel, fun r => by first | rfl | (show (if _ then _ else _) = _; rw [if_pos (by decide +kernel)]), by decide +kernel, by decide +kernel, by decide +kernel, by decide +kernel, by decide +kernel⟩
theorem k_law_tree : putK nm sF_law_tree 25 = true ∧
  swapC nm 25 sc8 = true ∧
  compOk sF_law_tree sc8 = true ∧
  varsOk nm sc8 (.cons (.one 11 ⟨237,63,237,64⟩) (.bi .range ⟨237,68,237,73⟩ (.cons (.int (5) 0 ⟨237,74,237,75⟩) .nil) ⟨237,68,237,76⟩) .nil .nil) = true ∧
  GS.single (.cons (.one 11 ⟨237,63,237,64⟩) (.bi .range ⟨237,68,237,73⟩ (.cons (.int (5) 0 ⟨237,74,237,75⟩) .nil) ⟨237,68,237,76⟩) .nil .nil) = true ∧
  (∀ r, inner nm sc8 r 19 = r 19) ∧
  (∀ r, inner nm sc8 r 23 = r 23) ∧
  isG sF_law_tree (Bi.py .range) = true ∧
  isG (rel sF_law_tree sc8) (Bi.py .sorted) = true ∧
  compOk (rel sF_law_tree sc8) sc7 = true ∧
  varsOk nm sc7 (.cons (.one 16 ⟨237,44,237,45⟩) (.item (.var 19 ⟨237,49,237,53⟩) (.var 11 ⟨237,54,237,55⟩) ⟨237,49,237,56⟩) .nil .nil) = true ∧
  (∀ r, inner nm sc7 r 23 = r 23) ∧
  putK nm sF_law_tree 26 = true ∧
  isG sF_law_tree (fn 2) = true ∧
  putK nm sF_law_tree 27 = true ∧
  isG sF_law_tree (Bi.py .min) = true ∧
  isG sF_law_tree (Bi.py .len) = true ∧
  putK nm sF_law_tree 0 = true ∧
  putK nm sF_law_tree 28 = true ∧
  isG sF_law_tree (fn 5) = true ∧
  isG sF_law_tree (fn 3) = true ∧
  isG sF_law_tree (Bi.py .sorted) = true := by
 exact ⟨by decide +kernel, by decide +kernel, by decide +kernel, by decide +kernel, by decide +kernel, fun r => by first | rfl | (show (if _ then _ else _) = _; rw [if_pos (by decide +kernel)]), fun r => by first | rfl | (show (if _ then _ else _) = _; rw [if_pos (by decide +kernel)]), by decide +kernel, by decide +kernel, by decide +kernel, by decide +kernel, fun r => by first | rfl | (show (if _ then _ else _) = _; rw [if_pos (by decide +kernel)]), by decide +kernel, by decide +kernel, by decide +kernel, by decide +kernel, by decide +kernel, by decide +kernel, by decide +kernel, by decide +kernel, by decide +kernel, by decide +kernel⟩
theorem k_law_paired : putK nm sF_law_paired 30 = true ∧
  isG sF_law_paired (fn 20) = true ∧
  isG sF_law_paired (fn 21) = true ∧
  isG sF_law_paired (fn 22) = true ∧
  isG sF_law_paired (fn 23) = true ∧
  isG sF_law_paired (fn 24) = true ∧
  putK nm sF_law_paired 11 = true ∧
  compOk sF_law_paired sc9 = true ∧
  varsOk nm sc9 (.cons (.one 16 ⟨252,40,252,41⟩) (.slice (.var 29 ⟨252,45,252,49⟩) (.some (.int (1) 0 ⟨252,50,252,51⟩)) .none ⟨252,50,252,52⟩ ⟨252,45,252,53⟩) (.cons (.cmp .ne (.var 16 ⟨252,57,252,58⟩) (.var 11 ⟨252,62,252,63⟩) ⟨252,57,252,63⟩) .nil) .nil) = true ∧
  (∀ r, inner nm sc9 r 11 = r 11) := by
 exact ⟨by decide +kernel, by decide +kernel, by decide +kernel, by decide +kernel, by decide +kernel, by decide +kernel, by decide +kernel, by decide +kernel, by decide +kernel, fun r => by first | rfl | (show (if _ then _ else _) = _; rw [if_pos (by decide +kernel)])⟩
theorem k_law_folders : putK nm sF_law_folders 31 = true ∧
  swapC nm 31 sc10 = true ∧
  compOk sF_law_folders sc10 = true ∧
  varsOk nm sc10 (.cons (.one 0 ⟨255,25,255,29⟩) (.var 26 ⟨255,33,255,38⟩) .nil .nil) = true ∧
  GS.single (.cons (.one 0 ⟨255,25,255,29⟩) (.var 26 ⟨255,33,255,38⟩) .nil .nil) = true ∧
  putK nm sF_law_folders 32 = true ∧
  swapC nm 32 sc10 = true ∧
  varsOk nm sc10 (.cons (.one 0 ⟨256,26,256,30⟩) (.var 26 ⟨256,34,256,39⟩) .nil .nil) = true ∧
  GS.single (.cons (.one 0 ⟨256,26,256,30⟩) (.var 26 ⟨256,34,256,39⟩) .nil .nil) = true ∧
  putK nm sF_law_folders 33 = true ∧
  putK nm sF_law_folders 0 = true ∧
  isG sF_law_folders (Bi.py .sorted) = true ∧
  putK nm sF_law_folders 34 = true ∧
  isG sF_law_folders (fn 4) = true := by
 exact ⟨by decide +kernel, by decide +kernel, by decide +kernel, by decide +kernel, by decide +kernel, by decide +kernel, by decide +kernel, by decide +kernel, by decide +kernel, by decide +kernel, by decide +kernel, by decide +kernel, by decide +kernel, by decide +kernel⟩
theorem klaw : putK nm sFlaw 1 = true ∧
  putK nm sFlaw 14 = true ∧
  putK nm sFlaw 19 = true ∧
  putK nm sFlaw 12 = true ∧
  isG sFlaw (fn 11) = true ∧
  putK nm sFlaw 26 = true ∧
  isG sFlaw (fn 19) = true ∧
  compOk sFlaw sc11 = true ∧
  varsOk nm sc11 (.cons (.one 8 ⟨267,52,267,56⟩) (.var 14 ⟨267,60,267,65⟩) .nil .nil) = true ∧
  (∀ r, inner nm sc11 r 1 = r 1) ∧
  isG (rel sFlaw sc11) (fn 13) = true ∧
  putK nm sFlaw 35 = true ∧
  swapC nm 35 sc12 = true ∧
  compOk sFlaw sc12 = true ∧
  varsOk nm sc12 (.cons (.one 8 ⟨268,38,268,42⟩) (.var 14 ⟨268,46,268,51⟩) .nil .nil) = true ∧
  (∀ r, inner nm sc12 r 1 = r 1) ∧
  isG (rel sFlaw sc12) (fn 12) = true ∧
  isG sFlaw (Bi.py .sorted) = true ∧
  isG sFlaw (fn 18) = true ∧
  putK nm sFlaw 33 = true ∧
  putK nm sFlaw 31 = true ∧
  isG sFlaw (fn 26) = true ∧
  isG sFlaw (fn 25) = true ∧
  putK nm sFlaw 36 = true ∧
  swapC nm 36 sc13 = true ∧
  compOk sFlaw sc13 = true ∧
  varsOk nm sc13 (.cons (.one 0 ⟨274,31,274,35⟩) (.var 26 ⟨274,39,274,44⟩) .nil .nil) = true ∧
  isG (rel sFlaw sc13) (fn 3) = true ∧
  putK nm sFlaw 30 = true ∧
  compOk sFlaw sc14 = true ∧
  varsOk nm sc14 (.cons (.one 11 ⟨275,31,275,32⟩) (.bi .range ⟨275,36,275,41⟩ (.cons (.int (5) 0 ⟨275,42,275,43⟩) .nil) ⟨275,36,275,44⟩) (.cons (.cmp .isIn (.item (.var 35 ⟨275,48,275,52⟩) (.var 11 ⟨275,53,275,54⟩) ⟨275,48,275,55⟩) (.var 36 ⟨275,59,275,63⟩) ⟨275,48,275,63⟩) .nil) .nil) = true ∧
  (∀ r, inner nm sc14 r 35 = r 35) ∧
  (∀ r, inner nm sc14 r 36 = r 36) ∧
  isG sFlaw (Bi.py .range) = true := by
 exact ⟨by decide +kernel, by decide +kernel, by decide +kernel, by decide +kernel, by decide +kernel, by decide +kernel, by decide +kernel, by decide +kernel, by decide +kernel, fun r => by first | rfl | (show (if _ then _ else _) = _; rw [if_pos (by decide +kernel)]), by decide +kernel, by decide +kernel, by decide +kernel, by decide +kernel, by decide +kernel, fun r => by first | rfl | (show (if _ then _ else _) = _; rw [if_pos (by decide +kernel)]), by decide +kernel, by decide +kernel, by decide +kernel, by decide +kernel, by decide +kernel, by decide +kernel, by decide +kernel, by decide +kernel, by decide +kernel, by decide +kernel, by decide +kernel, by decide +kernel, by decide +kernel, by decide +kernel, by decide +kernel, fun r => by first | rfl | (show (if _ then _ else _) = _; rw [if_pos (by decide +kernel)]), fun r => by first | rfl | (show (if _ then _ else _) = _; rw [if_pos (by decide +kernel)]), by decide +kernel⟩
noncomputable def E0 : FE := dFfspath.fe nm fn FT0
theorem e0_g (ds : List D) : E0.g ds = gOf nm fn FT0 sFfspath dFfspath.exact bFfspath pFfspath dFfspath.pd ds := rfl
theorem e0_x : E0.exact = dFfspath.exact := rfl
noncomputable def E1 : FE := dF_get_sep.fe nm fn FT1
theorem e1_g (ds : List D) : E1.g ds = gOf nm fn FT1 sF_get_sep dF_get_sep.exact bF_get_sep pF_get_sep dF_get_sep.pd ds := rfl
theorem e1_x : E1.exact = dF_get_sep.exact := rfl
noncomputable def E2 : FE := dFjoin.fe nm fn FT2
theorem e2_g (ds : List D) : E2.g ds = gOf nm fn FT2 sFjoin dFjoin.exact bFjoin pFjoin dFjoin.pd ds := rfl
noncomputable def E3 : FE := dFbasename.fe nm fn FT3
theorem e3_g (ds : List D) : E3.g ds = gOf nm fn FT3 sFbasename dFbasename.exact bFbasename pFbasename dFbasename.pd ds := rfl
noncomputable def E4 : FE := dFdirname.fe nm fn FT4
theorem e4_g (ds : List D) : E4.g ds = gOf nm fn FT4 sFdirname dFdirname.exact bFdirname pFdirname dFdirname.pd ds := rfl
theorem e4_x : E4.exact = dFdirname.exact := rfl
noncomputable def E5 : FE := sldFE
noncomputable def E6 : FE := dF_escape_cdata.fe nm fn FT6
noncomputable def E7 : FE := dF_escape_attrib.fe nm fn FT7
noncomputable def E8 : FE := dF_escape_attrib_html.fe nm fn FT8
noncomputable def E9 : FE := dF_escape_cdata_c14n.fe nm fn FT9
noncomputable def E10 : FE := dF_escape_attrib_c14n.fe nm fn FT10
noncomputable def E11 : FE := dF_law_drawn.fe nm fn FT11
theorem e11_g (ds : List D) : E11.g ds = gOf nm fn FT11 sF_law_drawn dF_law_drawn.exact bF_law_drawn pF_law_drawn dF_law_drawn.pd ds := rfl
noncomputable def E12 : FE := dF_law_told.fe nm fn FT12
noncomputable def E13 : FE := dF_law_written.fe nm fn FT13
noncomputable def E14 : FE := dF_law_ways0.fe nm fn FT14
noncomputable def E15 : FE := dF_law_ways1.fe nm fn FT15
noncomputable def E16 : FE := dF_law_ways2.fe nm fn FT16
noncomputable def E17 : FE := dF_law_ways3.fe nm fn FT17
noncomputable def E18 : FE := dF_law_ways4.fe nm fn FT18
noncomputable def E19 : FE := dF_law_tree.fe nm fn FT19
theorem e19_g (ds : List D) : E19.g ds = gOf nm fn FT19 sF_law_tree dF_law_tree.exact bF_law_tree pF_law_tree dF_law_tree.pd ds := rfl
noncomputable def E20 : FE := dF_law_paired0.fe nm fn FT20
noncomputable def E21 : FE := dF_law_paired1.fe nm fn FT21
noncomputable def E22 : FE := dF_law_paired2.fe nm fn FT22
noncomputable def E23 : FE := dF_law_paired3.fe nm fn FT23
noncomputable def E24 : FE := dF_law_paired4.fe nm fn FT24
noncomputable def E25 : FE := dF_law_paired5.fe nm fn FT25
noncomputable def E26 : FE := dF_law_folders.fe nm fn FT26
theorem e26_g (ds : List D) : E26.g ds = gOf nm fn FT26 sF_law_folders dF_law_folders.exact bF_law_folders pF_law_folders dF_law_folders.pd ds := rfl
noncomputable def E27 : FE := dFlaw.fe nm fn FT27
theorem e27_g (ds : List D) : E27.g ds = gOf nm fn FT27 sFlaw dFlaw.exact bFlaw pFlaw dFlaw.pd ds := rfl
theorem ft2 : FT2[0]? = some E0 ∧ FT2[1]? = some E1 := ⟨rfl, rfl⟩
theorem ft3 : FT3[0]? = some E0 ∧ FT3[1]? = some E1 := ⟨rfl, rfl⟩
theorem ft4 : FT4[0]? = some E0 ∧ FT4[1]? = some E1 := ⟨rfl, rfl⟩
theorem ft19 : FT19[2]? = some E2 ∧ FT19[3]? = some E3 ∧ FT19[5]? = some E5 := ⟨rfl, rfl, rfl⟩
theorem ft26 : FT26[4]? = some E4 := rfl
theorem ft27 : FT27[3]? = some E3 ∧ FT27[11]? = some E11 ∧ FT27[12]? = some E12 ∧ FT27[13]? = some E13 ∧ FT27[18]? = some E18 ∧ FT27[19]? = some E19 ∧ FT27[25]? = some E25 ∧ FT27[26]? = some E26 := ⟨rfl, rfl, rfl, rfl, rfl, rfl, rfl, rfl⟩
end L1
end
section
namespace Q
theorem sr_l (ds : List D) (t : Bool) : srcOf (some (.lst ds, t)) = if ds.length ≤ listLine then some (ds, t, false) else none := rfl
theorem sr_t (ds : List D) (t : Bool) : srcOf (some (.tup ds, t)) = if ds.length ≤ listLine then some (ds, t, false) else none := rfl
theorem ba_var (i : Nat) (p : Pos) : X.base (.var i p) = true := rfl
theorem ba_str (x : Str) (i : Nat) (p : Pos) : X.base (.str x i p) = true := rfl
theorem nt_call (f : Nat) (fp : Pos) (as : XS) (p : Pos) : notTup (.call f fp as p) = true := rfl
theorem cl_cons {β : Type} (f : D → Option (List β)) (d : D) (r : List D) : collectM f (d :: r) = (match f d, collectM f r with
  | some x, some y => some (x ++ y)
  | _, _ => none) := rfl
theorem kv_cons (x : Str) (d : D) (r : List D) : kvsOf (.tup [.str x, d] :: r) = (kvsOf r).map ((x, d) :: ·) := rfl
theorem addI (a b : Int) : binD .add (.int a) (.int b) = some (.int (a + b)) := rfl
theorem addS (a b : Str) : binD .add (.str a) (.str b) = if a.length + b.length ≤ strLine then some (.str (a ++ b)) else none := rfl
theorem addL (a b : List D) : binD .add (.lst a) (.lst b) = if a.length + b.length ≤ listLine then some (.lst (a ++ b)) else none := rfl
theorem subI (a b : Int) : binD .sub (.int a) (.int b) = some (.int (a - b)) := rfl
theorem mulI (a b : Int) : binD .mul (.int a) (.int b) = if a.natAbs < 2 ^ 4096 ∧ b.natAbs < 2 ^ 4096 then some (.int (a * b)) else none := rfl
theorem mulS (a : Str) (n : Int) : binD .mul (.str a) (.int n) = if a.length ≤ 16 ∧ 0 ≤ n ∧ n ≤ 100000 then some (.str (Txt.mul a n)) else none := rfl
theorem fdivI (a b : Int) : binD .fdiv (.int a) (.int b) = if b ≠ 0 ∧ a.natAbs < 2 ^ 62 ∧ b.natAbs < 2 ^ 62 then some (.int (a.fdiv b)) else none := rfl
theorem modI (a b : Int) : binD .mod (.int a) (.int b) = if b ≠ 0 then some (.int (a.fmod b)) else none := rfl
theorem rshI (a b : Int) : binD .rsh (.int a) (.int b) = if 0 ≤ b then some (.int (a.fdiv (2 ^ b.toNat))) else none := rfl
theorem bandI (a b : Int) : binD .band (.int a) (.int b) = some (.int (Builtin.bitAnd a b)) := rfl
theorem eqI (a b : Int) : cmpD .eq (.int a) (.int b) = some (a == b) := rfl
theorem neI (a b : Int) : cmpD .ne (.int a) (.int b) = some (a != b) := rfl
theorem ltI (a b : Int) : cmpD .lt (.int a) (.int b) = some (decide (a < b)) := rfl
theorem neS (a b : Str) : cmpD .ne (.str a) (.str b) = some (a != b) := rfl
theorem eqE (a : List D) : cmpD .eq (.lst a) (.lst []) = some (isNil a) := rfl
theorem neC (a : List D) (d : D) (b : List D) : cmpD .ne (.lst a) (.lst (d :: b)) = (eqStrs a (d :: b)).map (!·) := rfl
theorem isIn (a b : D) : cmpD .isIn a b = inD a b := by unfold cmpD; rfl
theorem notIn (a b : D) : cmpD .notIn a b = (inD a b).map (!·) := by unfold cmpD; rfl
theorem inSL (x : Str) (ds : List D) : inD (.str x) (.lst ds) = (strsOf ds).map fun ys => ys.any fun y => y == x := rfl
theorem inIL (x : Int) (ds : List D) : inD (.int x) (.lst ds) = (intsOf ds).map fun ys => ys.any fun y => y == x := rfl
theorem inPL (a b : Int) (ds : List D) : inD (.tup [.int a, .int b]) (.lst ds) = (pairsOf' ds).map fun ps => ps.any fun q => q == (a, b) := rfl
theorem tB (b : Bool) : truthD (.bool b) = some b := rfl
theorem tI (i : Int) : truthD (.int i) = some (i != 0) := rfl
theorem tS (x : Str) : truthD (.str x) = if x.length ≤ strLine then some (!decide (x.length = 0)) else none := by
 show (if x.length ≤ strLine then some ((x.length : Int) != 0) else none) = _
 congr 2
 by_cases h : x.length = 0
 ·rw [h]; rfl
 ·rw [decide_eq_false h]
  exact bne_iff_ne.mpr (by omega)
theorem itL (ds : List D) (i : Int) : itemD (.lst ds) (.int i) = (idxOf i ds.length).bind fun k => if ds.length ≤ listLine then ds[k]? else none := rfl
theorem itD (ks : List Str) (ds : List D) (x : Str) : itemD (.dct ks ds) (.str x) = lookD ks ds x := rfl
theorem slL (ds : List D) (lo hi : Option D) : sliceD (.lst ds) lo hi = (match cutAt ds.length lo 0, cutAt ds.length hi ds.length with
  | some i, some j => if ds.length ≤ listLine then some (.lst ((ds.take j).drop i)) else none
  | _, _ => none) := rfl
theorem slS (x : Str) (lo hi : Option D) : sliceD (.str x) lo hi = (match partO lo, partO hi with
  | some i, some j => if x.length ≤ strLine then some (.str (Txt.slice x i j)) else none
  | _, _ => none) := rfl
theorem cutN (n d : Nat) : cutAt n none d = some d := rfl
theorem cutI (n d : Nat) (i : Int) : cutAt n (some (.int i)) d = if 0 ≤ i then some (min i.toNat n) else none := rfl
theorem poN : partO none = some none := rfl
theorem poI (i : Int) : partO (some (.int i)) = some (some i) := rfl
theorem lenL (ds : List D) : biD .len [.lst ds] = if ds.length ≤ listLine then some (.int ds.length) else none := rfl
theorem lenS (x : Str) : biD .len [.str x] = if x.length ≤ strLine then some (.int x.length) else none := rfl
theorem srtL (ds : List D) : biD .sorted [.lst ds] = (strsOf ds).bind fun xs => if xs.length < 128 then some (.lst ((sortS xs).map .str)) else none := rfl
theorem minI (a b : Int) : biD .min [.int a, .int b] = some (.int (if b < a then b else a)) := rfl
theorem tyS (x : Str) : biD .type [.str x] = some (.ty "str") := rfl
theorem mrf (x y : Str) : meD .rfind (.str x) [.str y] = some (.int (Txt.rfind x y)) := rfl
theorem msw (x y : Str) : meD .startswith (.str x) [.str y] = some (.bool (Txt.startswith x y)) := rfl
theorem mew (x y : Str) : meD .endswith (.str x) [.str y] = some (.bool (Txt.endswith x y)) := rfl
theorem mrs (x y : Str) : meD .rstrip (.str x) [.str y] = if x.length ≤ strLine then some (.str (Txt.rstripChars x y)) else none := rfl
theorem msp (x y : Str) : meD .split (.str x) [.str y] = if x.length ≤ strLine ∧ y.length ≠ 0 then some (.lst ((Txt.split x y).map .str)) else none := rfl
theorem mjn (x : Str) (ds : List D) : meD .join (.str x) [.lst ds] = (strsOf ds).bind fun ys => if x.length ≤ 16 ∧ sumLen ys + ys.length ≤ strLine then some (.str (Txt.join x ys)) else none := rfl
theorem itV_ff (d : D) : itV d false = (d, false) := rfl
theorem itV_i (i : Int) (t : Bool) : itV (.int i) t = (.int i, false) := by cases t <;> rfl
theorem itV_s (x : Str) (t : Bool) : itV (.str x) t = (.str x, false) := by cases t <;> rfl
theorem unt_nil : untaint [] = true := rfl
theorem unt_cons (v : V) (vs : List V) : untaint (v :: vs) = (!v.2 && untaint vs) := rfl
theorem rho (S : Sta) (i : Nat) (sl : Slot) (h : S i = some sl) : rhoOf S i = some (sl.d, sl.own) := by unfold rhoOf; rw [h]
theorem rho_put (S : Sta) (i j : Nat) (sl : Slot) : rhoOf (S.put i sl) j = if j = i then some (sl.d, sl.own) else rhoOf S j := by
 unfold rhoOf Sta.put; by_cases h : j = i
 ·rw [if_pos h, if_pos h]
 ·rw [if_neg h, if_neg h]
theorem sw_var (nm : Nat → Str) (j : Nat) (i : Nat) (p : Pos) : swapOk nm j (.var i p) = true := rfl
theorem sw_int (nm : Nat → Str) (j : Nat) (n : Int) (k : Nat) (p : Pos) : swapOk nm j (.int n k p) = true := rfl
theorem sw_bin (nm : Nat → Str) (j : Nat) (op : BOp) (a b : X) (p : Pos) : swapOk nm j (.bin op a b p) = true := rfl
theorem sw_item (nm : Nat → Str) (j : Nat) (a b : X) (p : Pos) : swapOk nm j (.item a b p) = true := rfl
theorem sw_slice (nm : Nat → Str) (j : Nat) (a : X) (lo hi : OX) (ps p : Pos) : swapOk nm j (.slice a lo hi ps p) = true := rfl
theorem sw_list (nm : Nat → Str) (j : Nat) (es : XS) (p : Pos) : swapOk nm j (.list es p) = true := rfl
theorem sw_call (nm : Nat → Str) (j : Nat) (f : Nat) (fp : Pos) (as : XS) (p : Pos) : swapOk nm j (.call f fp as p) = true := rfl
theorem sw_bi (nm : Nat → Str) (j : Nat) (b : Bi) (fp : Pos) (as : XS) (p : Pos) : swapOk nm j (.bi b fp as p) = true := rfl
theorem sw_meth (nm : Nat → Str) (j : Nat) (m : Me) (o : X) (ap : Pos) (as : XS) (p : Pos) : swapOk nm j (.meth m o ap as p) = true := rfl
theorem na5 : Int.natAbs 5 = 5 := rfl
theorem put_get {S : Sta} {i : Nat} {sl : Slot} : S.put i sl i = some sl := if_pos rfl
theorem put_at (S : Sta) (i j : Nat) (sl : Slot) : S.put i sl j = if j = i then some sl else S j := rfl
theorem rho_nil (ps : List Nat) (i : Nat) : rhoOf (staOf ps []) i = none := by unfold rhoOf; cases ps <;> rfl
theorem rhoT_at (S : Sta) (i : Nat) : rhoT S i = (match S i with
 | some sl => some (itV sl.d true)
 | none => none) := rfl
theorem staOf_nil (i : Nat) : staOf [] [] i = none := rfl
theorem staOf_cons (p : Nat) (ps : List Nat) (d : D) (ds : List D) : staOf (p :: ps) (d :: ds) = (staOf ps ds).put p (.fr d) := rfl
theorem d_fr (d : D) : (Slot.fr d).d = d := rfl
theorem d_li (ds : List D) : (Slot.li ds).d = .lst ds := rfl
theorem o_fr (d : D) : (Slot.fr d).own = false := rfl
theorem o_li (ds : List D) : (Slot.li ds).own = true := rfl
theorem map_some {α β : Type} (f : α → β) (a : α) : Option.map f (some a) = some (f a) := rfl
theorem bind_some {α β : Type} (f : α → Option β) (a : α) : Option.bind (some a) f = f a := rfl
theorem b1 (i : Nat) (p : Pos) (v : V) (r : Rho) : bindTg (.one i p) v r = some fun k => if k = i then some v else r k := rfl
theorem bs1 (i : Nat) (p : Pos) (d : D) (S : Sta) : bindS (.one i p) d S = some (S.put i (.fr d)) := rfl
theorem tw1 (i : Nat) (p : Pos) : Tg.two? (.one i p) = false := rfl
theorem tw2 (i : Nat) (p : Pos) (j : Nat) (q : Pos) (k : Nat) (r : Pos) : Tg.two? (.two i p j q k r) = true := rfl
theorem tv1 (i : Nat) (p : Pos) : tgVars (.one i p) = [i] := rfl
theorem tv2 (i : Nat) (p : Pos) (j : Nat) (q : Pos) (k : Nat) (r : Pos) : tgVars (.two i p j q k r) = [i, j] := rfl
theorem lp_nil (f : Sta → Option (Fl × Sta)) (tg : Tg) (S : Sta) : loopF f tg [] S = some (.next, S) := rfl
theorem lp_cons (f : Sta → Option (Fl × Sta)) (tg : Tg) (d : D) (r : List D) (S : Sta) : loopF f tg (d :: r) S = (match bindS tg d S with
  | some S₁ => match f S₁ with
   | some (.next, S₂) => loopF f tg r S₂
   | some (.ret v, S₂) => some (.ret v, S₂)
   | none => none
  | none => none) := rfl
theorem so_li (ds : List D) : slotOf (.lst ds) = if ds.all D.atom then some (.li ds) else none := rfl
theorem so_di (ks : List Str) (ds : List D) : slotOf (.dct ks ds) = if ds.all D.atom then some (.di ks ds) else none := rfl
theorem ss_li (ds : List D) (j : Int) (d : D) : setSlot (.li ds) (.int j) d = if 0 ≤ j ∧ j < ds.length ∧ ds.length ≤ listLine ∧ d.atom then some (.li (ds.set j.toNat d)) else none := rfl
theorem ss_di (ks : List Str) (ds : List D) (x : Str) (d : D) : setSlot (.di ks ds) (.str x) d = if ks.length ≤ listLine ∧ d.atom then some (.di (storeD ks ds x d).1 (storeD ks ds x d).2) else none := rfl
theorem at_i (i : Int) : D.atom (.int i) = true := rfl
theorem at_s (x : Str) : D.atom (.str x) = true := rfl
theorem pm_nil (S : Sta) : putMany S [] [] = some S := rfl
theorem pm_cons (S : Sta) (t : Nat × Pos) (ts : List (Nat × Pos)) (d : D) (ds : List D) : putMany S (t :: ts) (d :: ds) = putMany (S.put t.1 (.fr d)) ts ds := rfl
theorem mo_add : mutOp .add = true := rfl
theorem mo_sub : mutOp .sub = true := rfl
theorem strsOf_map (xs : List Str) : strsOf (xs.map .str) = some xs := by
 induction xs with
 | nil => rfl
 | cons x r ih => show (strsOf (r.map D.str)).map (x :: ·) = _; rw [ih]; rfl
theorem intsOf_map (xs : List Int) : intsOf (xs.map .int) = some xs := by
 induction xs with
 | nil => rfl
 | cons x r ih => show (intsOf (r.map D.int)).map (x :: ·) = _; rw [ih]; rfl
theorem idxN (k n : Nat) (h : k < n) : idxOf (k : Int) n = some k := by
 unfold idxOf
 rw [if_pos (Int.natCast_nonneg k), if_pos (by omega)]
 simp
theorem gOf_of {nm fn : Nat → Str} {FT : List FE} {sc : Scope} {exact : Bool} {b : Bl} {ps : List Nat} {pd : List D → Option (List D)} {ds ds' : List D} {d : D} {S' : Sta} (hp : pd ds = some ds') (hl : ds'.length = ps.length)
  (h : exB nm fn FT sc (!exact) 200 b (staOf ps ds') = some (.ret d, S')) : gOf nm fn FT sc exact b ps pd ds = some d := by
 unfold gOf
 rw [hp]
 dsimp only
 rw [if_pos hl, h]
theorem gOf_ex {nm fn : Nat → Str} {FT : List FE} {sc : Scope} {exact : Bool} {b : Bl} {ps : List Nat} {pd : List D → Option (List D)} {ds ds' : List D} {d : D} (hp : pd ds = some ds') (hl : ds'.length = ps.length)
  (h : ∃ S', exB nm fn FT sc (!exact) 200 b (staOf ps ds') = some (.ret d, S')) : gOf nm fn FT sc exact b ps pd ds = some d := let ⟨_, h⟩ := h; gOf_of hp hl h
theorem loop_inv {f : Sta → Option (Fl × Sta)} {tg : Tg} (I : Nat → Sta → Prop) : ∀ (items : List D) (k : Nat) (S : Sta), I k S →
  (∀ j d S, items[j]? = some d → I (k + j) S → ∃ S₁ S₂, bindS tg d S = some S₁ ∧ f S₁ = some (.next, S₂) ∧ I (k + j + 1) S₂) →
  ∃ S', loopF f tg items S = some (.next, S') ∧ I (k + items.length) S'
 | [], k, S, h, _ => ⟨S, rfl, h⟩
 | d :: r, k, S, h, st => by
  obtain ⟨S₁, S₂, e1, e2, e3⟩ := st 0 d S rfl h
  obtain ⟨S', e4, e5⟩ := loop_inv I r (k + 1) S₂ e3 fun j d' S hd hI => by
   have := st (j + 1) d' S (by simpa using hd) (by rw [show k + (j + 1) = k + 1 + j by omega]; exact hI)
   rw [show k + (j + 1) + 1 = k + 1 + j + 1 by omega] at this
   exact this
  refine ⟨S', ?_, by rw [List.length_cons, show k + (r.length + 1) = k + 1 + r.length by omega]; exact e5⟩
  rw [lp_cons, e1]
  dsimp only
  rw [e2]
  exact e4
theorem out {x : Option (Fl × Sta)} {S2 : Sta} {P : Sta → Prop} (h : x = some (.next, S2)) (p : P S2) : ∃ S', x = some (.next, S') ∧ P S' := ⟨S2, h, p⟩
theorem enum_get : ∀ (ds : List D) (k j : Nat), (enumD k ds)[j]? = (ds[j]?).map fun d => .tup [.int ((k + j : Nat) : Int), d]
 | [], k, j => by simp [enumD]
 | d :: r, k, 0 => by simp [enumD]
 | d :: r, k, j + 1 => by
  show (enumD (k + 1) r)[j]? = _
  rw [enum_get r (k + 1) j, List.getElem?_cons_succ, show k + 1 + j = k + (j + 1) by omega]
theorem enum_len : ∀ (ds : List D) (k : Nat), (enumD k ds).length = ds.length
 | [], _ => rfl
 | _ :: r, k => congrArg (· + 1) (enum_len r (k + 1))
noncomputable def Off (ks : List Nat) (S S' : Sta) : Prop := ∀ k, k ∉ ks → S' k = S k
theorem Off.refl {ks : List Nat} {S : Sta} : Off ks S S := fun _ _ => rfl
theorem Off.put {ks : List Nat} {S S' : Sta} {i : Nat} {sl : Slot} (h : Off ks S S') (hi : i ∈ ks) : Off ks S (S'.put i sl) := fun k hk => by
 rw [put_at, if_neg (by rintro rfl; exact hk hi)]; exact h k hk
theorem Off.trans {ks : List Nat} {S S' S'' : Sta} (a : Off ks S S') (b : Off ks S' S'') : Off ks S S'' := fun k hk => (b k hk).trans (a k hk)
theorem Off.mono {ks js : List Nat} {S S' : Sta} (a : Off ks S S') (h : ∀ k ∈ ks, k ∈ js) : Off js S S' := fun k hk => a k fun q => hk (h k q)
theorem idxNeg (n : Nat) : idxOf (-1) (n + 1) = some n := by
 unfold idxOf
 rw [if_neg (by omega), if_pos (by omega)]
 congr 1; omega
end Q
end
section
noncomputable def slash : Str := Str.ofString "/"
theorem slash_eq : slash = ⟨#[47]⟩ := by decide +kernel
structure Nm (x : Str) : Prop where
 ne : x.cps.toList ≠ []
 sl : 47 ∉ x.cps.toList
 le : x.length ≤ 20
noncomputable def pathL (ns : List Str) : List Nat := ns.flatMap fun x => 47 :: x.cps.toList
noncomputable def pathS (ns : List Str) : Str := ⟨(pathL ns).toArray⟩
theorem toList_pathS (ns : List Str) : (pathS ns).cps.toList = pathL ns := by unfold pathS; simp
theorem str_ext {a b : Str} (h : a.cps.toList = b.cps.toList) : a = b := by
 cases a; cases b; congr 1; exact Array.toList_inj.mp h
theorem pathL_append (a b : List Str) : pathL (a ++ b) = pathL a ++ pathL b := by unfold pathL; rw [List.flatMap_append]
theorem pathL_one (x : Str) : pathL [x] = 47 :: x.cps.toList := by unfold pathL; simp
theorem pathL_cons (x : Str) (r : List Str) : pathL (x :: r) = 47 :: (x.cps.toList ++ pathL r) := by unfold pathL; simp
theorem length_toList (x : Str) : x.length = x.cps.toList.length := by unfold Str.length; simp
theorem pathS_length {ns : List Str} (h : ∀ x ∈ ns, Nm x) : (pathS ns).length ≤ 21 * ns.length := by
 rw [length_toList, toList_pathS]
 induction ns with
 | nil => simp [pathL]
 | cons x r ih =>
  have := (h x List.mem_cons_self).le
  rw [length_toList] at this
  have ih := ih fun y hy => h y (List.mem_cons_of_mem _ hy)
  rw [pathL_cons, List.length_cons, List.length_append, List.length_cons]
  omega
theorem append_toList (a b : Str) : (a ++ b).cps.toList = a.cps.toList ++ b.cps.toList := by
 show (a.cps ++ b.cps).toList = _; rw [Array.toList_append]
theorem slash_toList : slash.cps.toList = [47] := by rw [slash_eq]
theorem pathS_snoc (ns : List Str) (x : Str) : pathS (ns ++ [x]) = pathS ns ++ (slash ++ x) := by
 apply str_ext
 rw [toList_pathS, append_toList, append_toList, toList_pathS, slash_toList, pathL_append, pathL_one]; rfl
theorem pathS_nil : pathS [] = Str.ofString "" := by decide +kernel
theorem pathS_ne {ns : List Str} (h : ns ≠ []) : (pathS ns).length ≠ 0 := by
 rw [length_toList, toList_pathS]
 cases ns with
 | nil => exact absurd rfl h
 | cons x r => rw [pathL_cons]; simp
theorem tw {x t : List Nat} (h : 47 ∉ x) : (x ++ 47 :: t).takeWhile (· != 47) = x := by
 induction x with
 | nil => simp
 | cons a r ih =>
  have ha : a ≠ 47 := fun e => h (by rw [e]; exact List.mem_cons_self)
  have hr : 47 ∉ r := fun e => h (List.mem_cons_of_mem _ e)
  rw [List.cons_append, List.takeWhile_cons_of_pos (by simpa using ha), ih hr]
theorem cat_inj {x y s t : List Nat} (hx : 47 ∉ x) (hy : 47 ∉ y) (h : x ++ 47 :: s = y ++ 47 :: t) : x = y ∧ s = t := by
 have e : x = y := by rw [← tw (t := s) hx, h, tw hy]
 subst e
 have := List.append_cancel_left h
 exact ⟨rfl, by injection this⟩
theorem join_toList (x : Str) (y : Str) (r : List Str) : (Str.join slash (x :: y :: r)).cps.toList = x.cps.toList ++ 47 :: (Str.join slash (y :: r)).cps.toList := by
 show ((x ++ slash ++ Str.join slash (y :: r)) : Str).cps.toList = _
 rw [append_toList, append_toList, slash_toList, List.append_assoc]; rfl
theorem join_inj : ∀ {a b : List Str}, a ≠ [] → b ≠ [] → (∀ x ∈ a, 47 ∉ x.cps.toList) → (∀ x ∈ b, 47 ∉ x.cps.toList) → Str.join slash a = Str.join slash b → a = b
 | [], _, h, _, _, _, _ => absurd rfl h
 | _, [], _, h, _, _, _ => absurd rfl h
 | [x], [y], _, _, _, _, h => by have : x = y := h; rw [this]
 | [x], y :: z :: r, _, _, hx, _, h => by
  have e := congrArg (fun s : Str => s.cps.toList) h
  rw [join_toList] at e
  have e : x.cps.toList = _ := e
  exact absurd (by rw [e]; simp) (hx x List.mem_cons_self)
 | x :: z :: r, [y], _, _, _, hy, h => by
  have e := congrArg (fun s : Str => s.cps.toList) h
  rw [join_toList] at e
  have e : _ = y.cps.toList := e
  exact absurd (by rw [← e]; simp) (hy y List.mem_cons_self)
 | x :: z :: r, y :: v :: q, _, _, hx, hy, h => by
  have e := congrArg (fun s : Str => s.cps.toList) h
  rw [join_toList, join_toList] at e
  obtain ⟨e1, e2⟩ := cat_inj (hx x List.mem_cons_self) (hy y List.mem_cons_self) e
  rw [str_ext e1, join_inj (by simp) (by simp) (fun a ha => hx a (List.mem_cons_of_mem _ ha)) (fun a ha => hy a (List.mem_cons_of_mem _ ha)) (str_ext e2)]
theorem join_pathS : ∀ (ns : List Str), ns ≠ [] → Str.join slash (Str.ofString "" :: ns) = pathS ns
 | [], h => absurd rfl h
 | [x], _ => by
  apply str_ext
  rw [join_toList, toList_pathS, pathL_one]; rfl
 | x :: y :: r, _ => by
  have ih := join_pathS (y :: r) (by simp)
  apply str_ext
  have ih' := congrArg (fun s : Str => s.cps.toList) ih
  rw [join_toList, toList_pathS] at ih'
  rw [join_toList, toList_pathS, join_toList, pathL_cons, ← ih']
  rfl
theorem empty_toList : (Str.ofString "").cps.toList = [] := by decide +kernel
theorem split_pathS {ns : List Str} (hn : ns ≠ []) (h : ∀ x ∈ ns, Nm x) : Txt.split (pathS ns) slash = Str.ofString "" :: ns := by
 have hj := StrLaws.join_split (pathS ns) slash
 have hf := StrLaws.split_free (pathS ns) 47
 rw [← slash_eq] at hf
 refine join_inj (fun e => ?_) (by simp) hf (fun x hx => ?_) (hj.trans (join_pathS ns hn).symm)
 ·rw [e] at hj
  exact pathS_ne hn (by rw [← hj]; rfl)
 ·rcases List.mem_cons.mp hx with rfl | hx
  ·rw [empty_toList]; simp
  ·exact (h x hx).sl
theorem rfind_last {x : Str} {l t : List Nat} (h : x.cps.toList = l ++ 47 :: t) (ht : 47 ∉ t) : Txt.rfind x slash = (l.length : Int) := by
 have h0 : x.cps.toList[l.length]? = some 47 := by rw [h]; simp
 have hA : StrLaws.At x slash x.length l.length := by rw [slash_eq]; exact (StrLaws.subAt_one x 47 l.length).mpr h0
 have hno : ∀ k, l.length < k → ¬ StrLaws.At x slash x.length k := fun k hk hk' => by
  rw [slash_eq] at hk'
  have := (StrLaws.subAt_one x 47 k).mp hk'
  rw [h, List.getElem?_append_right (by omega)] at this
  obtain ⟨m, hm⟩ : ∃ m, k - l.length = m + 1 := ⟨k - l.length - 1, by omega⟩
  rw [hm, List.getElem?_cons_succ] at this
  exact ht (List.mem_of_getElem? this)
 unfold Txt.rfind
 rcases StrLaws.last_spec x slash with ⟨_, q⟩ | ⟨i, e, q1, q2⟩
 ·exact absurd hA (q _)
 ·rw [e]
  have : i = l.length := by
   rcases Nat.lt_trichotomy i l.length with q | q | q
   ·exact absurd hA (q2 _ q)
   ·exact q
   ·exact absurd q1 (hno _ q)
  rw [this]
theorem starts_no {x : Str} (hx : Nm x) : Txt.startswith x slash = false := by
 unfold Txt.startswith
 rw [StrLaws.subAt_eq, slash_toList, List.drop_zero]
 have : slash.length = 1 := rfl
 rw [this]
 cases h : x.cps.toList with
 | nil => exact absurd h hx.ne
 | cons a r =>
  have : a ≠ 47 := fun e => hx.sl (by rw [h, e]; exact List.mem_cons_self)
  simp [this]
theorem ends_no {x : Str} {l : List Nat} {a : Nat} (h : x.cps.toList = l ++ [a]) (ha : a ≠ 47) : Txt.endswith x slash = false := by
 unfold Txt.endswith
 rw [StrLaws.subAt_eq, slash_toList]
 have h1 : slash.length = 1 := rfl
 have h2 : x.length = l.length + 1 := by rw [length_toList, h]; simp
 rw [h1, h2, h]
 simp [ha]
theorem ends_slash : Txt.endswith slash slash = true := by decide +kernel
theorem slash_length : slash.length = 1 := rfl
theorem last_pathS {ns : List Str} {x : Str} (hx : Nm x) : ∃ l a, (pathS (ns ++ [x])).cps.toList = l ++ [a] ∧ a ≠ 47 := by
 obtain ⟨l, a, e⟩ : ∃ l a, x.cps.toList = l ++ [a] := ⟨_, _, (List.dropLast_concat_getLast hx.ne).symm⟩
 refine ⟨pathL ns ++ 47 :: l, a, ?_, fun q => hx.sl (by rw [e, q]; simp)⟩
 rw [toList_pathS, pathL_append, pathL_one, e]
 simp
end
section
noncomputable def joinS (a b : Str) : Str := if Txt.startswith b slash = true ∨ a.length = 0 then b else if Txt.endswith a slash = true then a ++ b else a ++ (slash ++ b)
noncomputable def baseS (p : Str) : Str := Txt.slice p (some (Txt.rfind p slash + 1)) none
noncomputable def headS (p : Str) : Str := Txt.slice p none (some (Txt.rfind p slash + 1))
noncomputable def dirS (p : Str) : Str := if (headS p).length = 0 ∨ headS p = Txt.mul slash ((headS p).length : Nat) then headS p else Txt.rstripChars (headS p) slash
theorem join_one {x : Str} (hx : Nm x) : joinS slash x = pathS [x] := by
 unfold joinS
 rw [if_neg (by rw [starts_no hx, slash_length]; simp), if_pos ends_slash]
 apply str_ext
 rw [append_toList, slash_toList, toList_pathS, pathL_one]; rfl
theorem snoc_last {ns : List Str} (hn : ns ≠ []) (h : ∀ x ∈ ns, Nm x) : ∃ l a, (pathS ns).cps.toList = l ++ [a] ∧ a ≠ 47 := by
 obtain ⟨r, x, e⟩ : ∃ r x, ns = r ++ [x] := ⟨_, _, (List.dropLast_concat_getLast hn).symm⟩
 subst e
 exact last_pathS (h x (by simp))
theorem join_snoc {ns : List Str} {x : Str} (hn : ns ≠ []) (h : ∀ x ∈ ns, Nm x) (hx : Nm x) : joinS (pathS ns) x = pathS (ns ++ [x]) := by
 obtain ⟨l, a, e, ha⟩ := snoc_last hn h
 unfold joinS
 rw [if_neg (by rw [starts_no hx]; have := pathS_ne hn; simp [this]), if_neg (by rw [ends_no e ha]; simp), pathS_snoc]
theorem rfind_snoc {ns : List Str} {x : Str} (hx : Nm x) : Txt.rfind (pathS (ns ++ [x])) slash = ((pathL ns).length : Int) :=
 rfind_last (l := pathL ns) (t := x.cps.toList) (by rw [toList_pathS, pathL_append, pathL_one]) hx.sl
theorem slice_eq (x : Str) (l u : Option Int) : Txt.slice x l u = StrLaws.sliceText x l u := rfl
theorem base_snoc {ns : List Str} {x : Str} (hx : Nm x) : baseS (pathS (ns ++ [x])) = x := by
 unfold baseS
 have hl : (pathS (ns ++ [x])).cps.toList.length = (pathL ns).length + (1 + x.cps.toList.length) := by
  rw [toList_pathS, pathL_append, pathL_one, List.length_append, List.length_cons]; omega
 rw [rfind_snoc hx, slice_eq, StrLaws.sliceText_from ⟨by omega, by rw [hl]; omega⟩]
 apply str_ext
 rw [hl, toList_pathS, pathL_append, pathL_one]
 have e1 : ((pathL ns).length + 1 : Int).toNat = (pathL ns).length + 1 := by omega
 have e2 : (((pathL ns).length + (1 + x.cps.toList.length) : Nat) - ((pathL ns).length + 1 : Int) : Int).toNat = x.cps.toList.length := by omega
 rw [e1, e2]
 show List.take _ (List.drop _ (pathL ns ++ 47 :: x.cps.toList)) = _
 rw [show pathL ns ++ 47 :: x.cps.toList = (pathL ns ++ [47]) ++ x.cps.toList by simp, List.drop_left' (by simp), List.take_length]
theorem head_snoc {ns : List Str} {x : Str} (hx : Nm x) : headS (pathS (ns ++ [x])) = pathS ns ++ slash := by
 unfold headS
 have hl : (pathS (ns ++ [x])).cps.toList.length = (pathL ns).length + (1 + x.cps.toList.length) := by
  rw [toList_pathS, pathL_append, pathL_one, List.length_append, List.length_cons]; omega
 rw [rfind_snoc hx, slice_eq, StrLaws.sliceText_to ⟨by omega, by rw [hl]; omega⟩]
 apply str_ext
 rw [toList_pathS, pathL_append, pathL_one, append_toList, toList_pathS, slash_toList]
 have e1 : (((pathL ns).length : Int) + 1 - 0).toNat = (pathL ns).length + 1 := by omega
 rw [e1, List.drop_zero]
 show List.take _ (pathL ns ++ 47 :: x.cps.toList) = _
 rw [show pathL ns ++ 47 :: x.cps.toList = (pathL ns ++ [47]) ++ x.cps.toList by simp, List.take_left' (by simp)]
theorem foldl_47 : ∀ (n : Nat) (a : Array Nat), (∀ c ∈ a.toList, c = 47) → ∀ c ∈ ((List.replicate n slash.cps).foldl (· ++ ·) a).toList, c = 47
 | 0, a, h => h
 | n + 1, a, h => by
  rw [List.replicate_succ, List.foldl_cons]
  refine foldl_47 n _ fun c hc => ?_
  rw [Array.toList_append, List.mem_append] at hc
  rcases hc with hc | hc
  ·exact h c hc
  ·rw [slash_toList] at hc; simpa using hc
theorem mul_47 (n : Int) : ∀ c ∈ (Txt.mul slash n).cps.toList, c = 47 := by
 unfold Txt.mul
 split
 ·intro c hc; simp [Str.empty] at hc
 ·split
  ·intro c hc; rw [slash_toList] at hc; simpa using hc
  ·exact foldl_47 _ _ (fun c hc => by simp at hc)
theorem rstrip_slash {x : Str} {l : List Nat} {a : Nat} (h : x.cps.toList = l ++ [a]) (ha : a ≠ 47) : Txt.rstripChars (x ++ slash) slash = x := by
 have hx : (x ++ slash).cps.toList = l ++ [a] ++ [47] := by rw [append_toList, h, slash_toList]
 have hln : (x ++ slash).length = l.length + 2 := by rw [length_toList, hx]; simp
 have hcp : slash.cps = #[47] := by rw [slash_eq]
 have goes : ∀ c, slash.cps.contains c = (c == 47) := fun c => by
  rw [hcp]
  by_cases h : c = 47
  ·subst h; simp
  ·rw [beq_false_of_ne h]; simp [h]
 have hhi : stripHi slash.cps.contains true (x ++ slash) 0 = l.length + 1 := by
  unfold stripHi
  rw [if_pos rfl, hx, hln]
  have g1 : slash.cps.contains 47 = true := by rw [goes]; rfl
  have g2 : slash.cps.contains a = false := by rw [goes]; exact beq_false_of_ne ha
  rw [List.drop_zero, List.reverse_append, List.reverse_append]
  show _ - (List.takeWhile _ (47 :: a :: l.reverse)).length = _
  rw [List.takeWhile_cons_of_pos g1, List.takeWhile_cons_of_neg (by rw [g2]; simp)]
  rfl
 have hlo : stripLo slash.cps.contains false (x ++ slash) = 0 := rfl
 unfold Txt.rstripChars Txt.stripBy stripSame PySem.stripped
 rw [hlo, hhi, hln, if_neg (by simp)]
 apply str_ext
 rw [StrLaws.strSub_toList, hx, h, List.drop_zero, Nat.sub_zero]
 exact List.take_left' (by simp)
theorem dir_snoc {ns : List Str} {x : Str} (hn : ns ≠ []) (h : ∀ x ∈ ns, Nm x) (hx : Nm x) : dirS (pathS (ns ++ [x])) = pathS ns := by
 obtain ⟨l, a, e, ha⟩ := snoc_last hn h
 unfold dirS
 rw [head_snoc hx]
 have hs : (pathS ns ++ slash).cps.toList = l ++ [a] ++ [47] := by rw [append_toList, e, slash_toList]
 rw [if_neg, rstrip_slash e ha]
 rintro (q | q)
 ·rw [length_toList, hs] at q; simp at q
 ·exact ha (mul_47 _ a (by rw [← q, hs]; simp))
theorem dir_one {x : Str} (hx : Nm x) : dirS (pathS [x]) = slash := by
 unfold dirS
 have : headS (pathS [x]) = slash := by
  rw [show [x] = [] ++ [x] from rfl, head_snoc hx]
  apply str_ext
  rw [append_toList, slash_toList, toList_pathS]; rfl
 rw [this, if_pos (Or.inr (by decide +kernel))]
end
section
namespace L1
theorem g_fspath (x : Str) : E0.g [.str x] = some (.str x) := by
 rw [e0_g]
 refine Q.gOf_ex (ds' := [.str x]) rfl rfl ?_
 unfold bFfspath pFfspath
 simp only [Q.var, Q.bi, Q.isSB, Q.nil, Q.cons, Q.tisSB, Q.asg, Q.sif, Q.sret, Q.bcons, Q.tB, Q.tyS, Q.rho_put, Q.rho_nil, Q.staOf_cons, Q.d_fr, Q.o_fr, Q.map_some, List.map_cons, List.map_nil, List.length_cons, List.length_nil, Bool.and_self, decide_true, if_true, if_false, Q.sw_bi, Nat.reduceLT, Nat.succ_ne_self, and_self, reduceCtorEq, Nat.lt_add_one, Nat.zero_add, kfspath]
 exact ⟨_, rfl⟩
theorem g_sep (x : Str) : E1.g [.str x] = some (.str slash) := by
 rw [e1_g]
 refine Q.gOf_ex (ds' := [.str x]) rfl rfl ?_
 unfold bF_get_sep pF_get_sep
 simp only [Q.var, Q.str, Q.isB, Q.tisB, Q.sif, Q.sret, Q.bcons, Q.tB, Q.rho_put, Q.rho_nil, Q.staOf_cons, Q.d_fr, Q.o_fr, Bool.and_self, if_true, k_get_sep]
 exact ⟨_, rfl⟩
theorem g_join (a b : Str) (ha : a.length ≤ 2000) (hb : b.length ≤ 2000) : E2.g [.str a, .str b] = some (.str (joinS a b)) := by
 rw [e2_g]
 refine Q.gOf_ex (ds' := [.str a, .tup [.str b]]) rfl rfl ?_
 have h1 : a.length ≤ 100000 := by omega
 have h2 : a.length + b.length ≤ 100000 := by omega
 have h3 : slash.length + b.length ≤ 100000 := by show 1 + b.length ≤ 100000; omega
 have h4 : a.length + (slash ++ b).length ≤ 100000 := by rw [Str.length_append]; show a.length + (1 + b.length) ≤ 100000; omega
 unfold bFjoin pFjoin joinS
 have e : Str.ofString "/" = slash := rfl
 simp only [Q.var, Q.bin, Q.call, Q.meth, Q.nil, Q.cons, Q.tnot, Q.tor, Q.tvar, Q.tmeth, Q.sr_t, Q.svar, Q.asg, Q.aug, Q.sif, Q.sfor, Q.sret, Q.stri, Q.bnil, Q.bcons, Q.addS, Q.tB, Q.tS, Q.msw, Q.mew, Q.itV_ff, Q.unt_nil, Q.unt_cons, Q.rho_put, Q.rho_nil, Q.put_at, Q.staOf_nil, Q.staOf_cons, Q.d_fr, Q.o_fr, Q.map_some, Q.bs1, Q.tw1, Q.tv1, Q.at_s, Q.mo_add, strLine, listLine, Bool.or_true, List.map_cons, List.map_nil, List.length_cons, List.length_nil, List.all_cons, List.all_nil, Bool.not_true, Bool.not_false, Bool.or_false, Bool.and_self, decide_true, if_true, if_false, beq_self_eq_true, Q.sw_var, Q.sw_call, Q.ba_var, Nat.reduceEqDiff, Nat.reduceLT, Nat.reduceLeDiff, Nat.succ_ne_self, and_self, reduceCtorEq, Nat.lt_add_one, Nat.zero_add, Q.lp_cons, Q.lp_nil, kjoin, ft2, e0_x, e1_x, dFfspath, dF_get_sep, g_fspath, g_sep, h1, h2, h3, h4]
 cases hs : Txt.startswith b slash
 ·by_cases h0 : a.length = 0
  ·simp only [Q.rho_put, Q.rho_nil, Q.d_fr, Q.o_fr, Bool.not_true, Bool.not_false, decide_true, if_true, if_false, Bool.false_eq_true, reduceCtorEq, h0, or_true]; exact ⟨_, rfl⟩
  ·cases he : Txt.endswith a slash <;> (simp only [Q.rho_put, Q.rho_nil, Q.d_fr, Q.o_fr, or_self, Bool.not_true, Bool.not_false, decide_false, if_true, if_false, Bool.false_eq_true, reduceCtorEq, h0]; exact ⟨_, rfl⟩)
 ·simp only [Q.rho_put, Q.rho_nil, Q.d_fr, Q.o_fr, if_true, if_false, reduceCtorEq]; exact ⟨_, rfl⟩
theorem g_basename (a : Str) (ha : a.length ≤ 2000) : E3.g [.str a] = some (.str (baseS a)) := by
 rw [e3_g]
 refine Q.gOf_ex (ds' := [.str a]) rfl rfl ?_
 have h1 : a.length ≤ 100000 := by omega
 unfold bFbasename pFbasename baseS
 simp only [Q.var, Q.int, Q.bin, Q.slice, Q.call, Q.meth, Q.nil, Q.cons, Q.onone, Q.osome, Q.asg, Q.sret, Q.bcons, Q.addI, Q.slS, Q.poN, Q.poI, Q.mrf, Q.itV_ff, Q.unt_nil, Q.unt_cons, Q.rho_put, Q.rho_nil, Q.staOf_cons, Q.d_fr, Q.o_fr, Q.map_some, strLine, Bool.or_true, List.map_cons, List.map_nil, List.length_cons, List.length_nil, Bool.not_true, Bool.not_false, Bool.or_false, Bool.and_self, decide_true, if_true, if_false, beq_self_eq_true, Q.sw_bin, Q.sw_call, Q.ba_var, Nat.reduceEqDiff, Nat.reduceLT, Nat.succ_ne_self, and_self, Nat.lt_add_one, Nat.zero_add, kbasename, ft3, e0_x, e1_x, dFfspath, dF_get_sep, g_fspath, g_sep, h1]
 exact ⟨_, rfl⟩
theorem g_dirname (a : Str) (ha : a.length ≤ 2000) : E4.g [.str a] = some (.str (dirS a)) := by
 rw [e4_g]
 refine Q.gOf_ex (ds' := [.str a]) rfl rfl ?_
 have h1 : a.length ≤ 100000 := by omega
 have h2 : (headS a).length ≤ 100000 := Nat.le_trans (Txt.slice_le _ _ _) h1
 have h3 : slash.length ≤ 16 ∧ (0 : Int) ≤ ((headS a).length : Nat) ∧ (((headS a).length : Nat) : Int) ≤ 100000 := ⟨by show 1 ≤ 16; omega, by omega, by omega⟩
 unfold bFdirname pFdirname dirS
 have e : Txt.slice a none (some (Txt.rfind a slash + 1)) = headS a := rfl
 simp only [Q.var, Q.int, Q.bin, Q.slice, Q.call, Q.bi, Q.meth, Q.nil, Q.cons, Q.onone, Q.osome, Q.tand, Q.tcmp, Q.tvar, Q.asg, Q.sif, Q.sret, Q.bnil, Q.bcons, Q.addI, Q.mulS, Q.neS, Q.tS, Q.slS, Q.poN, Q.poI, Q.lenS, Q.mrf, Q.mrs, Q.itV_ff, Q.unt_nil, Q.unt_cons, Q.rho_put, Q.rho_nil, Q.staOf_cons, Q.d_fr, Q.o_fr, Q.map_some, strLine, Bool.or_true, List.map_cons, List.map_nil, List.length_cons, List.length_nil, Bool.not_true, Bool.not_false, Bool.or_false, Bool.and_self, decide_true, if_true, if_false, beq_self_eq_true, Q.sw_bin, Q.sw_slice, Q.sw_call, Q.sw_meth, Q.ba_var, Nat.reduceEqDiff, Nat.reduceLT, Nat.succ_ne_self, and_self, Nat.lt_add_one, Nat.zero_add, kdirname, ft4, e0_x, e1_x, dFfspath, dF_get_sep, g_fspath, g_sep, h1, e, h2, h3]
 cases hb : (headS a != Txt.mul slash ((headS a).length : Nat)) with
 | false =>
  have h5 : headS a = Txt.mul slash ((headS a).length : Nat) := by simpa using hb
  rw [if_pos (Or.inr h5)]
  by_cases h4 : (headS a).length = 0 <;> (simp only [Q.rho_put, Q.rho_nil, Q.d_fr, Q.o_fr, Bool.not_true, Bool.not_false, decide_true, decide_false, if_true, if_false, Nat.reduceEqDiff, Nat.succ_ne_self, h4]; exact ⟨_, rfl⟩)
 | true =>
  have h5 : ¬ headS a = Txt.mul slash ((headS a).length : Nat) := by simpa using hb
  by_cases h4 : (headS a).length = 0
  ·rw [if_pos (Or.inl h4)]; simp only [Q.rho_put, Q.rho_nil, Q.d_fr, Q.o_fr, Bool.not_true, decide_true, if_true, if_false, Nat.reduceEqDiff, Nat.succ_ne_self, h4]; exact ⟨_, rfl⟩
  ·rw [if_neg (fun q => q.elim h4 h5)]; simp only [Q.rho_put, Q.rho_nil, Q.d_fr, Q.o_fr, Bool.not_false, decide_false, if_true, if_false, Nat.reduceEqDiff, Nat.succ_ne_self, h4]; exact ⟨_, rfl⟩
end L1
end
section
namespace L1
noncomputable def pool : List Str := ["\t", "\n", "\r", "\"", "&", "&lt;", "#", "'", "<", "=", ">", "a"]
noncomputable def poolAt (j : Nat) : Str := pool.getD j ""
noncomputable def nameT : List (List Str) := [["\t", "\n", "\r", "\"", "&amp;", "&amp;lt;", "#", "'", "&lt;", "=", "&gt;", "a"],
 ["\t", "\n", "&#xD;", "\"", "&amp;", "&amp;lt;", "#", "'", "&lt;", "=", "&gt;", "a"],
 ["&#09;", "&#10;", "&#13;", "&quot;", "&amp;", "&amp;lt;", "#", "'", "&lt;", "=", "&gt;", "a"],
 ["&#x9;", "&#xA;", "&#xD;", "&quot;", "&amp;", "&amp;lt;", "#", "'", "&lt;", "=", ">", "a"],
 ["\t", "\n", "\r", "&quot;", "&amp;", "&amp;lt;", "#", "'", "<", "=", "&gt;", "a"]]
noncomputable def nameAt (k j : Nat) : Str := (nameT.getD k []).getD j ""
theorem written_all : (List.range 5).map (fun (k : Nat) => (List.range 12).map fun j => E13.g [.str (poolAt j), .int k]) = (List.range 5).map (fun k => (List.range 12).map fun j => some (.str (nameAt k j))) := by kernel_rfl
theorem told_all : (List.range 5).map (fun (k : Nat) => (List.range 12).map fun j => E12.g [.str (poolAt j), .int k]) = (List.range 5).map (fun k => (List.range 12).map fun j => some (.str (nameAt k j))) := by kernel_rfl
theorem map2_at {α : Type} {f g : Nat → Nat → α} {a b : Nat} (h : (List.range a).map (fun k => (List.range b).map (f k)) = (List.range a).map (fun k => (List.range b).map (g k))) {k j : Nat} (hk : k < a) (hj : j < b) : f k j = g k j := by
 have h1 := congrArg (fun l => l[k]?) h
 simp only [List.getElem?_map, List.getElem?_range hk, Option.map_some] at h1
 have h2 := congrArg (fun l => l[j]?) (Option.some.inj h1)
 simp only [List.getElem?_map, List.getElem?_range hj, Option.map_some] at h2
 exact Option.some.inj h2
theorem g_written {k j : Nat} (hk : k < 5) (hj : j < 12) : E13.g [.str (poolAt j), .int k] = some (.str (nameAt k j)) := map2_at written_all hk hj
theorem g_told {k j : Nat} (hk : k < 5) (hj : j < 12) : E12.g [.str (poolAt j), .int k] = some (.str (nameAt k j)) := map2_at told_all hk hj
noncomputable def namesOf (k j : Nat) : List Str := (List.range 5).map fun i => nameAt k ((j + i) % 12)
noncomputable def nmB (x : Str) : Bool := !x.cps.toList.isEmpty && !x.cps.toList.contains 47 && decide (x.length ≤ 20)
theorem nmB_Nm {x : Str} (h : nmB x = true) : Nm x := by
 unfold nmB at h
 rw [Bool.and_eq_true, Bool.and_eq_true, decide_eq_true_eq] at h
 refine ⟨fun e => ?_, fun e => ?_, h.2⟩
 ·rw [e] at h; simp at h
 ·have := h.1.2; simp at this; exact this (by simpa using e)
theorem names_all : ((List.range 5).all fun k => (List.range 12).all fun j => (namesOf k j).all nmB && decide (namesOf k j).Nodup) = true := by decide +kernel
theorem names_ok {k j : Nat} (hk : k < 5) (hj : j < 12) : (∀ x ∈ namesOf k j, Nm x) ∧ (namesOf k j).Nodup := by
 have := List.all_eq_true.mp (List.all_eq_true.mp names_all k (List.mem_range.mpr hk)) j (List.mem_range.mpr hj)
 rw [Bool.and_eq_true, decide_eq_true_eq] at this
 exact ⟨fun x hx => nmB_Nm (List.all_eq_true.mp this.1 x hx), this.2⟩
theorem names_length (k j : Nat) : (namesOf k j).length = 5 := by unfold namesOf; simp
end L1
end
section
namespace Go
noncomputable def sm (f : Nat → Int) : List Nat → Int
 | [] => 0
 | u :: r => f u + sm f r
theorem sm_congr {f g : Nat → Int} : ∀ {S : List Nat}, (∀ u ∈ S, f u = g u) → sm f S = sm g S
 | [], _ => rfl
 | u :: r, h => by
  show f u + sm f r = g u + sm g r
  rw [h u List.mem_cons_self, sm_congr fun v hv => h v (List.mem_cons_of_mem _ hv)]
theorem sm_perm {f : Nat → Int} {S T : List Nat} (h : S.Perm T) : sm f S = sm f T := by
 induction h with
 | nil => rfl
 | cons u _ ih => exact congrArg (f u + ·) ih
 | swap u v r => exact Int.add_left_comm _ _ _
 | trans _ _ a b => exact a.trans b
theorem sm_mul {f : Nat → Int} (a : Int) : ∀ S : List Nat, sm (fun u => f u * a) S = sm f S * a
 | [] => (Int.zero_mul a).symm
 | u :: r => by show f u * a + sm _ r = (f u + sm f r) * a; rw [sm_mul a r, Int.add_mul]
theorem sm_sub {f g : Nat → Int} : ∀ S : List Nat, sm (fun u => f u - g u) S = sm f S - sm g S
 | [] => rfl
 | u :: r => by show f u - g u + sm _ r = f u + sm f r - (g u + sm g r); rw [sm_sub r]; omega
theorem sm_add {f g : Nat → Int} : ∀ S : List Nat, sm (fun u => f u + g u) S = sm f S + sm g S
 | [] => rfl
 | u :: r => by show f u + g u + sm _ r = f u + sm f r + (g u + sm g r); rw [sm_add r]; omega
theorem sm_zero : ∀ S : List Nat, sm (fun _ => 0) S = 0
 | [] => rfl
 | _ :: r => by show 0 + sm _ r = 0; rw [sm_zero r]; rfl
theorem sm_swap {g : Nat → Nat → Int} (T : List Nat) : ∀ S : List Nat, sm (fun u => sm (g u) T) S = sm (fun z => sm (fun u => g u z) S) T
 | [] => (sm_zero T).symm
 | u :: r => by
  show sm (g u) T + sm _ r = _
  rw [sm_swap T r, ← sm_add]; rfl
theorem sm_filter {f : Nat → Int} (p : Nat → Bool) : ∀ S : List Nat, sm f (S.filter p) = sm (fun u => if p u then f u else 0) S
 | [] => rfl
 | u :: r => by
  rw [List.filter_cons]
  show _ = (if p u then f u else 0) + sm _ r
  rw [← sm_filter p r]
  cases p u
  ·exact (Int.zero_add _).symm
  ·rfl
theorem sm_append {f : Nat → Int} (T : List Nat) : ∀ S : List Nat, sm f (S ++ T) = sm f S + sm f T
 | [] => (Int.zero_add _).symm
 | u :: r => by show f u + sm f (r ++ T) = f u + sm f r + sm f T; rw [sm_append T r, Int.add_assoc]
noncomputable def wo (S : List Nat) (k : Nat) : List Nat := S.filter fun m => m != k
theorem wo_no {S : List Nat} {k : Nat} (h : k ∉ S) : wo S k = S := List.filter_eq_self.mpr fun _ ha => bne_iff_ne.mpr fun e => h (e ▸ ha)
theorem wo_self {S : List Nat} {k : Nat} (h : k ∉ S) : wo (k :: S) k = S := by
 unfold wo; rw [List.filter_cons, if_neg (by simp)]; exact wo_no h
theorem wo_cons {S : List Nat} {k u : Nat} (h : k ≠ u) : wo (k :: S) u = k :: wo S u := by
 unfold wo; rw [List.filter_cons, if_pos (bne_iff_ne.mpr h)]
theorem wo_append (S T : List Nat) (k : Nat) : wo (S ++ T) k = wo S k ++ wo T k := List.filter_append ..
theorem mem_wo {S : List Nat} {k u : Nat} : u ∈ wo S k ↔ u ∈ S ∧ u ≠ k := by unfold wo; rw [List.mem_filter, bne_iff_ne]
theorem wo_nodup {S : List Nat} {k : Nat} (h : S.Nodup) : (wo S k).Nodup := h.sublist List.filter_sublist
theorem wo_comm (S : List Nat) (a b : Nat) : wo (wo S a) b = wo (wo S b) a := by
 unfold wo; rw [List.filter_filter, List.filter_filter]
 exact congrArg (S.filter ·) (funext fun m => Bool.and_comm _ _)
theorem wo_le (S : List Nat) (k : Nat) : (wo S k).length ≤ S.length := List.length_filter_le _ _
theorem wo_perm {S T : List Nat} (k : Nat) (h : S.Perm T) : (wo S k).Perm (wo T k) := h.filter _
theorem pick {S : List Nat} {k : Nat} (n : S.Nodup) (h : k ∈ S) : S.Perm (k :: wo S k) := by
 refine (List.perm_ext_iff_of_nodup n (List.nodup_cons.mpr ⟨fun q => (mem_wo.mp q).2 rfl, wo_nodup n⟩)).mpr fun u => ?_
 rw [List.mem_cons, mem_wo]
 constructor
 ·intro hu
  by_cases e : u = k
  ·exact .inl e
  ·exact .inr ⟨hu, e⟩
 ·rintro (rfl | q)
  ·exact h
  ·exact q.1
theorem wo_length {S : List Nat} {k : Nat} (n : S.Nodup) (h : k ∈ S) : (wo S k).length + 1 = S.length := ((pick n h).length_eq).symm
section
variable (ad : Nat → Nat → Bool) (x : Int)
noncomputable def M : List Nat → Int
 | [] => 1
 | v :: S => x * M S - sm (fun u => if ad v u then M (wo S u) else 0) S
termination_by S => S.length
decreasing_by
 ·exact Nat.lt_succ_self _
 ·exact Nat.lt_succ_of_le (wo_le _ _)
theorem M_nil : M ad x [] = 1 := by rw [M]
theorem M_cons (v : Nat) (S : List Nat) : M ad x (v :: S) = x * M ad x S - sm (fun u => if ad v u then M ad x (wo S u) else 0) S := by rw [M]
variable {ad x}
theorem M_two {v w : Nat} {R : List Nat} (n : (w :: R).Nodup) : M ad x (v :: w :: R) = x * (x * M ad x R) - x * sm (fun u => if ad w u then M ad x (wo R u) else 0) R - x * sm (fun u => if ad v u then M ad x (wo R u) else 0) R - (if ad v w then M ad x R else 0)
  + sm (fun u => sm (fun z => if ad v u && ad w z && z != u then M ad x (wo (wo R u) z) else 0) R) R := by
 have hw := (List.nodup_cons.mp n).1
 rw [M_cons, M_cons]
 show _ - ((if ad v w then M ad x (wo (w :: R) w) else 0) + _) = _
 rw [wo_self hw]
 have e : sm (fun u => if ad v u then M ad x (wo (w :: R) u) else 0) R = sm (fun u => (if ad v u then M ad x (wo R u) else 0) * x - sm (fun z => if ad v u && ad w z && z != u then M ad x (wo (wo R u) z) else 0) R) R := sm_congr fun u hu => by
  cases hv : ad v u with
  | false => rw [if_neg (by simp), if_neg (by simp)]; simp only [Bool.false_and, Bool.false_eq_true, if_false]; rw [sm_zero, Int.zero_mul]; rfl
  | true =>
   rw [if_pos rfl, if_pos rfl, wo_cons (fun q => hw (by rw [q]; exact hu)), M_cons, Int.mul_comm x]
   congr 1
   show sm _ (R.filter _) = _
   rw [sm_filter]
   refine sm_congr fun z _ => ?_
   rw [Bool.true_and, Bool.and_comm]
   by_cases q : (z != u) = true
   ·rw [if_pos q, q, Bool.true_and]
   ·rw [if_neg q, if_neg]; intro h; exact q (Bool.and_eq_true_iff.mp h).1
 rw [e, sm_sub, sm_mul, Int.mul_comm _ x, Int.mul_sub]
 omega
variable (sy : ∀ u v, ad u v = ad v u)
include sy
theorem M_swap {v w : Nat} {R : List Nat} (n : (v :: w :: R).Nodup) : M ad x (v :: w :: R) = M ad x (w :: v :: R) := by
 obtain ⟨hv, hw⟩ := List.nodup_cons.mp n
 have nv : (v :: R).Nodup := List.nodup_cons.mpr ⟨fun h => hv (List.mem_cons_of_mem _ h), (List.nodup_cons.mp hw).2⟩
 rw [M_two hw, M_two nv, sy w v, sm_swap R R]
 have e : sm (fun z => sm (fun u => if ad v u && ad w z && z != u then M ad x (wo (wo R u) z) else 0) R) R = sm (fun u => sm (fun z => if ad w u && ad v z && z != u then M ad x (wo (wo R u) z) else 0) R) R := sm_congr fun z _ => sm_congr fun u _ => by
  rw [wo_comm R z u, Bool.and_comm (ad w z)]
  have : (z != u) = (u != z) := by rw [Bool.eq_iff_iff, bne_iff_ne, bne_iff_ne]; exact ne_comm
  rw [this]
 rw [e]
 omega
theorem M_perm : ∀ (n : Nat) {S T : List Nat}, S.length ≤ n → S.Perm T → S.Nodup → M ad x S = M ad x T := by
 intro n
 induction n with
 | zero =>
  intro S T h p _
  obtain rfl := List.length_eq_zero_iff.mp (Nat.le_zero.mp h)
  rw [p.nil_eq]
 | succ n ih =>
  intro S T h p d
  induction p with
  | nil => rfl
  | @cons v R R' q _ =>
   have d' := (List.nodup_cons.mp d).2
   have h' : R.length ≤ n := Nat.le_of_succ_le_succ h
   rw [M_cons, M_cons, ih h' q d', sm_perm q]
   congr 1
   refine sm_congr fun u _ => ?_
   rw [ih (Nat.le_trans (wo_le _ _) h') (wo_perm u q) (wo_nodup d')]
  | swap v w R => exact M_swap sy d
  | trans a b c e => rw [c h d, e (by rw [← a.length_eq]; exact h) (a.nodup d)]
omit sy in
theorem M_apart {Y : List Nat} : ∀ (n : Nat) (X : List Nat), X.length ≤ n → (∀ u ∈ X, u ∉ Y) → (∀ u ∈ X, ∀ w ∈ Y, ad u w = false) → M ad x (X ++ Y) = M ad x X * M ad x Y := by
 intro n
 induction n with
 | zero =>
  intro X h _ _
  obtain rfl := List.length_eq_zero_iff.mp (Nat.le_zero.mp h)
  rw [List.nil_append, M_nil, Int.one_mul]
 | succ n ih =>
  intro X h d e
  cases X with
  | nil => rw [List.nil_append, M_nil, Int.one_mul]
  | cons v X =>
   have h' : X.length ≤ n := Nat.le_of_succ_le_succ h
   have d' : ∀ u ∈ X, u ∉ Y := fun u hu => d u (List.mem_cons_of_mem _ hu)
   have e' : ∀ u ∈ X, ∀ w ∈ Y, ad u w = false := fun u hu => e u (List.mem_cons_of_mem _ hu)
   rw [List.cons_append, M_cons, M_cons, ih X h' d' e', sm_append, Int.sub_mul, Int.mul_assoc]
   congr 1
   have z : sm (fun u => if ad v u then M ad x (wo (X ++ Y) u) else 0) Y = 0 := (sm_congr fun u hu => by rw [e v List.mem_cons_self u hu]; rfl).trans (sm_zero Y)
   rw [z, Int.add_zero, ← sm_mul]
   refine sm_congr fun u hu => ?_
   rw [wo_append, wo_no (d' u hu), ih _ (Nat.le_trans (wo_le _ _) h') (fun w hw => d' w (mem_wo.mp hw).1) fun w hw => e' w (mem_wo.mp hw).1]
   cases ad v u
   ·exact (Int.zero_mul _).symm
   ·rfl
end
end Go
end
section
namespace Go
noncomputable def step (c d : Int × Int) : Int × Int := (c.1 * d.1, c.2 * d.1 + c.1 * d.2)
theorem step_comm (c d e : Int × Int) : step (step c d) e = step (step c e) d := by
 unfold step
 refine Prod.ext (Int.mul_right_comm _ _ _) ?_
 show (c.2 * d.1 + c.1 * d.2) * e.1 + c.1 * d.1 * e.2 = (c.2 * e.1 + c.1 * e.2) * d.1 + c.1 * e.1 * d.2
 rw [Int.add_mul, Int.add_mul, Int.mul_right_comm c.2, Int.mul_right_comm c.1 d.2, Int.mul_right_comm c.1 d.1, Int.add_assoc, Int.add_assoc, Int.add_comm (c.1 * e.1 * d.2)]
theorem fold_perm {l m : List (Int × Int)} (h : l.Perm m) (c : Int × Int) : l.foldl step c = m.foldl step c := by
 induction h generalizing c with
 | nil => rfl
 | cons _ _ ih => exact ih _
 | swap _ _ _ => exact congrArg (List.foldl step · _) (step_comm _ _ _)
 | trans _ _ a b => exact (a c).trans (b c)
section
variable (ad : Nat → Nat → Bool) (x : Int)
noncomputable def WA : Nat → List Nat → Nat → Int × Int
 | 0, _, _ => (x, 1)
 | n + 1, S, v => let c := ((S.filter (ad v)).map fun u => WA n (wo S u) u).foldl step (1, 0); (x * c.1 - c.2, c.1)
noncomputable def En : Nat → List Nat → Nat → Nat → Prop
 | 0, _, v, k => k = v
 | n + 1, S, v, k => k = v ∨ ∃ u ∈ S, ad v u = true ∧ En n (wo S u) u k
variable {ad x}
noncomputable def Shut (X S : List Nat) : Prop := ∀ w ∈ X, ∀ z ∈ S, ad w z = true → z ∈ X
theorem En.sub {X : List Nat} : ∀ (n : Nat) {S : List Nat} {v k : Nat}, En ad n S v k → v ∈ X → Shut (ad := ad) X S → k ∈ X
 | 0, _, _, _, e, h, _ => by cases (e : _ = _); exact h
 | n + 1, S, v, k, e, h, c => by
  rcases e with rfl | ⟨u, hu, a, e⟩
  ·exact h
  ·exact En.sub n e (c v h u hu a) fun w hw z hz => c w hw z (mem_wo.mp hz).1
structure Gd (ad : Nat → Nat → Bool) (x : Int) (n : Nat) (S : List Nat) (v : Nat) (C : List Nat) (Q : Int) : Prop where
 nd : C.Nodup
 sub : ∀ k ∈ C, k = v ∨ k ∈ S
 shut : Shut (ad := ad) C (v :: S)
 mem : ∀ k, k ∈ C ↔ En ad n S v k
 wa : WA ad x n S v = (M ad x C * Q, M ad x (wo C v) * Q)
structure Gs (ad : Nat → Nat → Bool) (x : Int) (n : Nat) (S us X : List Nat) (Z : Int) (c : Int × Int) : Prop where
 nd : X.Nodup
 sub : ∀ k ∈ X, k ∈ S
 shut : Shut (ad := ad) X S
 mem : ∀ k, k ∈ X ↔ ∃ u ∈ us, En ad n (wo S u) u k
 a : c.1 = M ad x X * Z
 p : c.2 = sm (fun u => M ad x (wo X u)) us * Z
theorem Gd.self {n : Nat} {S C : List Nat} {v : Nat} {Q : Int} (g : Gd ad x n S v C Q) : v ∈ C := (g.mem v).mpr (by cases n; exact rfl; exact .inl rfl)
theorem alg1 {s Z q Q r t : Int} : s * Z * (q * Q) + q * r * Z * (t * Q) = (s + t * r) * (Z * (q * Q)) := by grind
theorem alg2 {s Z q Q m t : Int} : s * Z * (q * Q) + m * Z * (t * Q) = (s * q + m * t) * (Z * Q) := by grind
theorem alg3 {m Z q Q : Int} : m * Z * (q * Q) = m * q * (Z * Q) := by grind
theorem less {α : Type} [BEq α] [LawfulBEq α] {X C : List α} (hx : X.Nodup) (hc : C.Nodup) (h : ∀ k ∈ C, k ∈ X) : X.Perm (C ++ X.filter fun k => !C.contains k) := by
 refine (List.perm_ext_iff_of_nodup hx (List.nodup_append.mpr ⟨hc, hx.sublist List.filter_sublist, fun a ha b hb e => ?_⟩)).mpr fun u => ?_
 ·subst e
  have := (List.mem_filter.mp hb).2
  rw [List.contains_iff_mem.mpr ha] at this; cases this
 ·rw [List.mem_append, List.mem_filter, Bool.not_eq_true', ← Bool.not_eq_true, List.contains_iff_mem]
  constructor
  ·intro hu
   by_cases q : u ∈ C
   ·exact .inl q
   ·exact .inr ⟨hu, q⟩
  ·rintro (q | q)
   ·exact h u q
   ·exact q.1
variable (sy : ∀ u v, ad u v = ad v u)
include sy
theorem cut {X C : List Nat} {u : Nat} (hx : X.Nodup) (hc : C.Nodup) (h : ∀ k ∈ C, k ∈ X) (c : Shut (ad := ad) C X) (hu : u ∈ C) : ∃ r, M ad x X = M ad x C * r ∧ M ad x (wo X u) = M ad x (wo C u) * r := by
 have p := less hx hc h
 have no : ∀ k ∈ C, k ∉ X.filter fun k => !C.contains k := fun k hk q => by
  have := (List.mem_filter.mp q).2
  rw [List.contains_iff_mem.mpr hk] at this; cases this
 have e : ∀ k ∈ C, ∀ w ∈ X.filter fun k => !C.contains k, ad k w = false := fun k hk w hw => by
  cases a : ad k w with
  | false => rfl
  | true => exact absurd hw (no w (c k hk w (List.mem_filter.mp hw).1 a))
 refine ⟨M ad x (X.filter fun k => !C.contains k), ?_, ?_⟩
 ·rw [M_perm sy _ (Nat.le_refl _) p hx, M_apart _ _ (Nat.le_refl _) no e]
 ·rw [M_perm sy _ (Nat.le_refl _) (wo_perm u p) (wo_nodup hx), wo_append, wo_no (no u hu), M_apart _ _ (Nat.le_refl _) (fun k hk => no k (mem_wo.mp hk).1) fun k hk => e k (mem_wo.mp hk).1]
theorem Gs.more {n : Nat} {S us X C : List Nat} {Z Q : Int} {c : Int × Int} {u : Nat} (g : Gs ad x n S us X Z c) (hu : u ∈ S) (d : Gd ad x n (wo S u) u C Q) : ∃ X Z, Gs ad x n S (us ++ [u]) X Z (step c (WA ad x n (wo S u) u)) := by
 have cS : ∀ k ∈ C, k ∈ S := fun k hk => (d.sub k hk).elim (fun e => e ▸ hu) fun q => (mem_wo.mp q).1
 have cs : Shut (ad := ad) C S := fun w hw z hz a => by
  by_cases q : z = u
  ·exact q ▸ d.self
  ·exact d.shut w hw z (List.mem_cons_of_mem _ (mem_wo.mpr ⟨hz, q⟩)) a
 have mm : ∀ k, (∃ w ∈ us ++ [u], En ad n (wo S w) w k) ↔ k ∈ X ∨ k ∈ C := fun k => by
  rw [g.mem, d.mem]
  constructor
  ·rintro ⟨w, hw, e⟩
   rcases List.mem_append.mp hw with q | q
   ·exact .inl ⟨w, q, e⟩
   ·rw [List.mem_singleton.mp q] at e; exact .inr e
  ·rintro (⟨w, hw, e⟩ | e)
   ·exact ⟨w, List.mem_append_left _ hw, e⟩
   ·exact ⟨u, List.mem_append_right _ List.mem_cons_self, e⟩
 rw [d.wa]
 by_cases q : u ∈ X
 ·have cX : ∀ k ∈ C, k ∈ X := fun k hk => En.sub n ((d.mem k).mp hk) q fun w hw z hz => g.shut w hw z (mem_wo.mp hz).1
  obtain ⟨r, e1, e2⟩ := cut sy (x := x) g.nd d.nd cX (fun w hw z hz => cs w hw z (g.sub z hz)) d.self
  refine ⟨X, Z * (M ad x C * Q), g.nd, g.sub, g.shut, fun k => ?_, ?_, ?_⟩
  ·rw [mm]; exact ⟨.inl, fun h => h.elim id (cX k)⟩
  ·show c.1 * _ = _
   rw [g.a, Int.mul_assoc]
  ·show c.2 * _ + c.1 * _ = _
   rw [g.a, g.p, sm_append, e1]
   show _ = (_ + (M ad x (wo X u) + 0)) * _
   rw [e2, Int.add_zero]; exact alg1
 ·have no : ∀ k ∈ X, k ∉ C := fun k hk hc => by
   have : k ∈ S.filter fun k => !X.contains k := En.sub n ((d.mem k).mp hc) (List.mem_filter.mpr ⟨hu, by simpa using q⟩) fun w hw z hz a => by
    refine List.mem_filter.mpr ⟨(mem_wo.mp hz).1, ?_⟩
    have hw := List.mem_filter.mp hw
    have h2 : w ∉ X := by simpa using hw.2
    have : z ∉ X := fun hz => h2 (g.shut z hz w hw.1 (by rw [sy]; exact a))
    simpa using this
   have := (List.mem_filter.mp this).2
   simp at this; exact this hk
  have e : ∀ w ∈ X, ∀ z ∈ C, ad w z = false := fun w hw z hz => by
   cases a : ad w z with
   | false => rfl
   | true => exact absurd hz (no z (g.shut w hw z (cS z hz) a))
  refine ⟨X ++ C, Z * Q, ?_, ?_, ?_, fun k => ?_, ?_, ?_⟩
  ·exact List.nodup_append.mpr ⟨g.nd, d.nd, fun a ha b hb e => no a ha (e ▸ hb)⟩
  ·intro k hk; exact (List.mem_append.mp hk).elim (g.sub k) (cS k)
  ·intro w hw z hz a
   exact (List.mem_append.mp hw).elim (fun h => List.mem_append_left _ (g.shut w h z hz a)) fun h => List.mem_append_right _ (cs w h z hz a)
  ·rw [mm, List.mem_append]
  ·show c.1 * _ = _
   rw [g.a, M_apart _ _ (Nat.le_refl _) no e]; exact alg3
  ·show c.2 * _ + c.1 * _ = _
   have e1 : sm (fun u => M ad x (wo (X ++ C) u)) us = sm (fun u => M ad x (wo X u)) us * M ad x C := by
    rw [← sm_mul]
    refine sm_congr fun w hw => ?_
    have hX : w ∈ X := (g.mem w).mpr ⟨w, hw, by cases n; exact rfl; exact .inl rfl⟩
    rw [wo_append, wo_no (no w hX), M_apart _ _ (Nat.le_refl _) (fun k hk => no k (mem_wo.mp hk).1) fun k hk => e k (mem_wo.mp hk).1]
   rw [g.a, g.p, sm_append, e1]
   show _ = (_ + (M ad x (wo (X ++ C) u) + 0)) * _
   rw [Int.add_zero, wo_append, wo_no q, M_apart _ _ (Nat.le_refl _) (fun k hk hc => no k hk (mem_wo.mp hc).1) fun k hk z hz => e k hk z (mem_wo.mp hz).1]; exact alg2
theorem Gs.all {n : Nat} {S : List Nat} (ih : ∀ u ∈ S, ∃ C Q, Gd ad x n (wo S u) u C Q) : ∀ (us vs X : List Nat) (Z : Int) (c : Int × Int), Gs ad x n S us X Z c → (∀ u ∈ vs, u ∈ S) → ∃ X Z, Gs ad x n S (us ++ vs) X Z ((vs.map fun u => WA ad x n (wo S u) u).foldl step c)
 | us, [], X, Z, c, g, _ => ⟨X, Z, by rw [List.append_nil]; exact g⟩
 | us, u :: vs, X, Z, c, g, h => by
  obtain ⟨C, Q, d⟩ := ih u (h u List.mem_cons_self)
  obtain ⟨X', Z', g'⟩ := g.more sy (h u List.mem_cons_self) d
  have := Gs.all ih (us ++ [u]) vs X' Z' _ g' fun w hw => h w (List.mem_cons_of_mem _ hw)
  rw [List.append_assoc] at this
  exact this
theorem godsil : ∀ (n : Nat) {S : List Nat} {v : Nat}, S.length = n → (v :: S).Nodup → ∃ C Q, Gd ad x n S v C Q
 | 0, S, v, h, _ => by
  obtain rfl := List.length_eq_zero_iff.mp h
  refine ⟨[v], 1, by simp, fun k hk => .inl (List.mem_singleton.mp hk), fun w hw z hz _ => hz, fun k => List.mem_singleton, ?_⟩
  show (x, (1 : Int)) = _
  rw [wo_self List.not_mem_nil, M_cons, M_nil]
  show _ = ((x * 1 - 0) * 1, (1 : Int) * 1)
  simp
 | n + 1, S, v, h, d => by
  obtain ⟨hv, hd⟩ := List.nodup_cons.mp d
  obtain ⟨X, Z, g⟩ := Gs.all sy (x := x) (fun u hu => godsil n (S := wo S u) (v := u) (by have := wo_length hd hu; omega) (List.nodup_cons.mpr ⟨fun q => (mem_wo.mp q).2 rfl, wo_nodup hd⟩)) [] (S.filter (ad v)) [] 1 (1, 0)
   ⟨.nil, fun k hk => (by cases hk), fun w hw => (by cases hw), fun k => ⟨fun h => (by cases h), fun ⟨_, h, _⟩ => (by cases h)⟩, (by rw [M_nil]; rfl), rfl⟩ fun u hu => (List.mem_filter.mp hu).1
  rw [List.nil_append] at g
  have vX : v ∉ X := fun q => hv (g.sub v q)
  have us : ∀ u, u ∈ S.filter (ad v) → u ∈ X := fun u hu => (g.mem u).mpr ⟨u, hu, by cases n; exact rfl; exact .inl rfl⟩
  have pm : (S.filter (ad v)).Perm (X.filter (ad v)) := (List.perm_ext_iff_of_nodup (hd.sublist List.filter_sublist) (g.nd.sublist List.filter_sublist)).mpr fun u => by
   constructor
   ·intro hu; exact List.mem_filter.mpr ⟨us u hu, (List.mem_filter.mp hu).2⟩
   ·intro hu; have hu := List.mem_filter.mp hu; exact List.mem_filter.mpr ⟨g.sub u hu.1, hu.2⟩
  refine ⟨v :: X, Z, List.nodup_cons.mpr ⟨vX, g.nd⟩, ?_, ?_, fun k => ?_, ?_⟩
  ·intro k hk; exact (List.mem_cons.mp hk).imp id (g.sub k)
  ·intro w hw z hz a
   rcases List.mem_cons.mp hz with q | q
   ·exact q ▸ List.mem_cons_self
   rcases List.mem_cons.mp hw with r | r
   ·exact List.mem_cons_of_mem _ (us z (List.mem_filter.mpr ⟨q, r ▸ a⟩))
   ·exact List.mem_cons_of_mem _ (g.shut w r z q a)
  ·rw [List.mem_cons, g.mem]
   refine or_congr Iff.rfl ⟨fun ⟨u, hu, e⟩ => ⟨u, (List.mem_filter.mp hu).1, (List.mem_filter.mp hu).2, e⟩, fun ⟨u, h1, h2, e⟩ => ⟨u, List.mem_filter.mpr ⟨h1, h2⟩, e⟩⟩
  ·show (x * _ - _, _) = _
   rw [g.a, g.p, wo_self vX, M_cons, sm_perm pm, sm_filter, Int.sub_mul, Int.mul_assoc]
end
end Go
end
section
namespace Go
section
variable {ad : Nat → Nat → Bool} {x : Int}
theorem alg4 {c q d r : Int} : c * q * (d * r) = d * q * (c * r) := by grind
theorem godsil_end (sy : ∀ u v, ad u v = ad v u) {S E : List Nat} {v : Nat} (d : (v :: S).Nodup) (hE : E.Nodup) (me : ∀ k, k ∈ E ↔ En ad S.length S v k) :
  (WA ad x S.length S v).1 * M ad x S = (WA ad x S.length S v).2 * M ad x (v :: S) ∧ ∃ Q, (WA ad x S.length S v).1 = M ad x E * Q := by
 obtain ⟨C, Q, g⟩ := godsil sy (x := x) S.length rfl d
 obtain ⟨r, e1, e2⟩ := cut sy (x := x) d g.nd (fun k hk => List.mem_cons.mpr (g.sub k hk)) g.shut g.self
 rw [wo_self (List.nodup_cons.mp d).1] at e2
 rw [g.wa, e1, e2]
 refine ⟨alg4, Q, ?_⟩
 show M ad x C * Q = _
 rw [M_perm sy _ (Nat.le_refl _) ((List.perm_ext_iff_of_nodup g.nd hE).mpr fun k => (g.mem k).trans (me k).symm) g.nd]
theorem step_bd {c d : Int × Int} {m b : Nat} (h1 : c.1.natAbs ≤ m) (h2 : c.2.natAbs ≤ m) (h3 : d.1.natAbs ≤ b) (h4 : d.2.natAbs ≤ b) : (step c d).1.natAbs ≤ m * (2 * b) ∧ (step c d).2.natAbs ≤ m * (2 * b) := by
 refine ⟨?_, ?_⟩
 ·show (c.1 * d.1).natAbs ≤ _
  rw [Int.natAbs_mul]
  exact Nat.mul_le_mul h1 (Nat.le_trans h3 (Nat.le_mul_of_pos_left _ (by decide)))
 ·refine Nat.le_trans (Int.natAbs_add_le _ _) ?_
  rw [Int.natAbs_mul, Int.natAbs_mul, Nat.two_mul, Nat.mul_add]
  exact Nat.add_le_add (Nat.mul_le_mul h2 h3) (Nat.mul_le_mul h1 h4)
theorem fold_bd {b : Nat} : ∀ (l : List (Int × Int)) (c : Int × Int) (m : Nat), c.1.natAbs ≤ m → c.2.natAbs ≤ m → (∀ d ∈ l, d.1.natAbs ≤ b ∧ d.2.natAbs ≤ b) → (l.foldl step c).1.natAbs ≤ m * (2 * b) ^ l.length ∧ (l.foldl step c).2.natAbs ≤ m * (2 * b) ^ l.length
 | [], c, m, h1, h2, _ => by rw [List.length_nil, Nat.pow_zero, Nat.mul_one]; exact ⟨h1, h2⟩
 | d :: l, c, m, h1, h2, h => by
  have hd := h d List.mem_cons_self
  have := step_bd h1 h2 hd.1 hd.2
  have := fold_bd l (step c d) _ this.1 this.2 fun e he => h e (List.mem_cons_of_mem _ he)
  rw [List.length_cons, Nat.pow_succ, Nat.mul_comm ((2 * b) ^ l.length), ← Nat.mul_assoc]
  exact this
noncomputable def bd : Nat → Nat
 | 0 => 2 ^ 10
 | n + 1 => 2 ^ 10 * (2 * bd n) ^ (n + 1)
theorem bd_pos : ∀ n, 0 < bd n
 | 0 => by decide
 | n + 1 => Nat.mul_pos (by decide) (Nat.pow_pos (Nat.mul_pos (by decide) (bd_pos n)))
theorem fold_le {n k : Nat} {l : List (Int × Int)} (h : ∀ d ∈ l, d.1.natAbs ≤ bd n ∧ d.2.natAbs ≤ bd n) (hk : l.length ≤ k) : (l.foldl step (1, 0)).1.natAbs ≤ (2 * bd n) ^ k ∧ (l.foldl step (1, 0)).2.natAbs ≤ (2 * bd n) ^ k := by
 have := fold_bd l (1, 0) 1 (Nat.le_refl 1) (Nat.zero_le 1) h
 rw [Nat.one_mul] at this
 have q := Nat.pow_le_pow_right (n := 2 * bd n) (Nat.mul_pos (by decide) (bd_pos n)) hk
 exact ⟨Nat.le_trans this.1 q, Nat.le_trans this.2 q⟩
theorem whole_le {c : Int × Int} {m : Nat} (hx : x.natAbs < 1000) (h1 : c.1.natAbs ≤ m) (h2 : c.2.natAbs ≤ m) : (x * c.1 - c.2).natAbs ≤ 2 ^ 10 * m := by
 refine Nat.le_trans (Int.natAbs_sub_le _ _) ?_
 rw [Int.natAbs_mul]
 refine Nat.le_trans (Nat.add_le_add (Nat.mul_le_mul (Nat.le_of_lt hx) h1) h2) ?_
 rw [← Nat.succ_mul]
 exact Nat.mul_le_mul_right _ (by decide)
theorem WA_bd (hx : x.natAbs < 1000) : ∀ (n : Nat) (S : List Nat) (v : Nat), S.Nodup → S.length = n → (WA ad x n S v).1.natAbs ≤ bd n ∧ (WA ad x n S v).2.natAbs ≤ bd n
 | 0, S, v, _, _ => ⟨Nat.le_trans (Nat.le_of_lt hx) (by decide), by show 1 ≤ _; decide⟩
 | n + 1, S, v, d, h => by
  have := fold_le (n := n) (k := n + 1) (l := (S.filter (ad v)).map fun u => WA ad x n (wo S u) u) (fun d' hd => by
   obtain ⟨u, hu, rfl⟩ := List.mem_map.mp hd
   have := wo_length d (List.mem_filter.mp hu).1
   exact WA_bd hx n _ _ (wo_nodup d) (Nat.succ.inj (this.trans h))) (by rw [List.length_map, ← h]; exact List.length_filter_le _ _)
  exact ⟨whole_le hx this.1 this.2, Nat.le_trans this.1 (Nat.le_mul_of_pos_left _ (by decide))⟩
theorem sm_bd {f : Nat → Int} {b : Nat} : ∀ S : List Nat, (∀ u ∈ S, (f u).natAbs ≤ b) → (sm f S).natAbs ≤ S.length * b
 | [], _ => Nat.zero_le _
 | u :: r, h => by
  refine Nat.le_trans (Int.natAbs_add_le _ _) ?_
  rw [List.length_cons, Nat.succ_mul, Nat.add_comm]
  exact Nat.add_le_add (sm_bd r fun v hv => h v (List.mem_cons_of_mem _ hv)) (h u List.mem_cons_self)
theorem M_bd (hx : x.natAbs < 1000) : ∀ (n : Nat) (S : List Nat), S.length ≤ n → n ≤ 20 → (M ad x S).natAbs ≤ 2 ^ (10 * n)
 | n, [], _, _ => by rw [M_nil]; exact Nat.one_le_two_pow
 | 0, _ :: _, h, _ => absurd h (Nat.not_succ_le_zero _)
 | n + 1, v :: S, h, hn => by
  have h' := Nat.le_of_succ_le_succ h
  have hn' : n ≤ 20 := Nat.le_of_succ_le hn
  rw [M_cons]
  refine Nat.le_trans (Int.natAbs_sub_le _ _) ?_
  have e1 := sm_bd (f := fun u => if ad v u then M ad x (wo S u) else 0) (b := 2 ^ (10 * n)) S fun u _ => by
   show (if ad v u then M ad x (wo S u) else 0).natAbs ≤ _
   cases ad v u
   ·exact Nat.zero_le _
   ·exact M_bd hx n _ (Nat.le_trans (wo_le _ _) h') hn'
  have e2 := Nat.mul_le_mul (Nat.le_of_lt hx) (M_bd hx n S h' hn')
  rw [Int.natAbs_mul]
  refine Nat.le_trans (Nat.add_le_add e2 e1) ?_
  rw [← Nat.add_mul, Nat.mul_succ, Nat.pow_add, Nat.mul_comm]
  exact Nat.mul_le_mul_left _ (Nat.le_trans (Nat.add_le_add_left (Nat.le_trans h' hn') _) (by decide))
end
end Go
end
section
namespace Go
noncomputable def re (p : List Nat) : List Nat := (List.range 5).filter fun k => !p.contains k
theorem mem_re {p : List Nat} {k : Nat} : k ∈ re p ↔ k < 5 ∧ k ∉ p := by
 unfold re; rw [List.mem_filter, List.mem_range, Bool.not_eq_true', ← Bool.not_eq_true, List.contains_iff_mem]
theorem re_nodup (p : List Nat) : (re p).Nodup := List.nodup_range.sublist List.filter_sublist
theorem re_cons (p : List Nat) (k : Nat) : re (k :: p) = wo (re p) k := by
 unfold re wo
 rw [List.filter_filter]
 congr 1; funext m
 rw [List.contains_cons, Bool.not_or]; rfl
structure Vl (p : List Nat) : Prop where
 ne : p ≠ []
 nd : p.Nodup
 lt : ∀ k ∈ p, k < 5
theorem Vl.len {p : List Nat} (h : Vl p) : (re p).length + p.length = 5 := by
 have := (less (List.nodup_range (n := 5)) h.nd fun k hk => List.mem_range.mpr (h.lt k hk)).length_eq
 rw [List.length_range, List.length_append] at this
 rw [Nat.add_comm]; exact this.symm
theorem Vl.cons {p : List Nat} {k : Nat} (h : Vl p) (hk : k ∈ re p) : Vl (k :: p) := by
 have := mem_re.mp hk
 refine ⟨by simp, List.nodup_cons.mpr ⟨this.2, h.nd⟩, fun m hm => ?_⟩
 rcases List.mem_cons.mp hm with rfl | q
 ·exact this.1
 ·exact h.lt m q
section
variable (ad : Nat → Nat → Bool)
noncomputable def ch (p : List Nat) : List Nat := (re p).filter (ad (p.headD 0))
noncomputable def dfs : Nat → List Nat → List (List Nat)
 | 0, p => [p]
 | n + 1, p => p :: (ch ad p).flatMap fun k => dfs n (k :: p)
variable {ad}
theorem ch_re {p : List Nat} {k : Nat} (h : k ∈ ch ad p) : k ∈ re p := (List.mem_filter.mp h).1
theorem ch_nodup (p : List Nat) : (ch ad p).Nodup := (re_nodup p).sublist List.filter_sublist
theorem ch_len {p : List Nat} {n : Nat} (h : Vl p) (hn : n + p.length = 5) : (ch ad p).length ≤ n := by
 have := h.len
 exact Nat.le_trans (List.length_filter_le _ _) (by omega)
theorem dfs_self : ∀ (n : Nat) (p : List Nat), p ∈ dfs ad n p
 | 0, _ => List.mem_cons_self
 | _ + 1, _ => List.mem_cons_self
theorem mem_dfs {n : Nat} {p q : List Nat} : q ∈ dfs ad (n + 1) p ↔ q = p ∨ ∃ k ∈ ch ad p, q ∈ dfs ad n (k :: p) := by
 show q ∈ p :: _ ↔ _
 rw [List.mem_cons, List.mem_flatMap]
theorem dfs_suf : ∀ (n : Nat) {p q : List Nat}, q ∈ dfs ad n p → p <:+ q
 | 0, p, q, h => by rw [List.mem_singleton.mp h]; exact List.suffix_refl p
 | n + 1, p, q, h => by
  rcases mem_dfs.mp h with rfl | ⟨k, _, h⟩
  ·exact List.suffix_refl _
  ·exact (List.suffix_cons k p).trans (dfs_suf n h)
theorem dfs_vl : ∀ (n : Nat) {p q : List Nat}, Vl p → q ∈ dfs ad n p → Vl q
 | 0, p, q, v, h => by rw [List.mem_singleton.mp h]; exact v
 | n + 1, p, q, v, h => by
  rcases mem_dfs.mp h with rfl | ⟨k, hk, h⟩
  ·exact v
  ·exact dfs_vl n (v.cons (ch_re hk)) h
theorem dfs_nodup : ∀ (n : Nat) (p : List Nat), (dfs ad n p).Nodup
 | 0, p => List.pairwise_singleton _ _
 | n + 1, p => by
  refine List.nodup_cons.mpr ⟨fun h => ?_, ?_⟩
  ·obtain ⟨k, _, h⟩ := List.mem_flatMap.mp h
   exact absurd (dfs_suf n h).length_le (by simp)
  ·refine List.pairwise_flatMap.mpr ⟨fun k _ => dfs_nodup n _, (ch_nodup p).imp fun {a b} hab q hq r hr e => ?_⟩
   subst e
   have := List.suffix_of_suffix_length_le (dfs_suf n hq) (dfs_suf n hr) (Nat.le_refl _)
   exact hab (List.cons.inj (this.eq_of_length rfl)).1
theorem dfs_down : ∀ (n : Nat) {p q : List Nat} {k : Nat}, Vl p → n + p.length = 5 → q ∈ dfs ad n p → k ∈ ch ad q → k :: q ∈ dfs ad n p
 | 0, p, q, k, v, hn, h, hk => by
  rw [List.mem_singleton.mp h] at hk
  have := ch_len (ad := ad) v hn
  rw [List.length_eq_zero_iff.mp (Nat.le_zero.mp this)] at hk; cases hk
 | n + 1, p, q, k, v, hn, h, hk => by
  rcases mem_dfs.mp h with rfl | ⟨m, hm, h⟩
  ·exact mem_dfs.mpr (.inr ⟨k, hk, dfs_self n _⟩)
  ·exact mem_dfs.mpr (.inr ⟨m, hm, dfs_down n (v.cons (ch_re hm)) (by rw [List.length_cons]; omega) h hk⟩)
theorem dfs_up : ∀ (n : Nat) {p q : List Nat} {k : Nat}, k :: q ∈ dfs ad n p → k :: q = p ∨ q ∈ dfs ad n p ∧ k ∈ ch ad q
 | 0, p, q, k, h => .inl (List.mem_singleton.mp h)
 | n + 1, p, q, k, h => by
  rcases mem_dfs.mp h with e | ⟨m, hm, h⟩
  ·exact .inl e
  ·rcases dfs_up n h with e | ⟨a, b⟩
   ·obtain ⟨rfl, rfl⟩ := List.cons.inj e
    exact .inr ⟨mem_dfs.mpr (.inl rfl), hm⟩
   ·exact .inr ⟨mem_dfs.mpr (.inr ⟨m, hm, a⟩), b⟩
noncomputable def ub : Nat → Nat
 | 0 => 1
 | n + 1 => 1 + (n + 1) * ub n
theorem flat_len {f : Nat → List (List Nat)} {m : Nat} : ∀ l : List Nat, (∀ k ∈ l, (f k).length ≤ m) → (l.flatMap f).length ≤ l.length * m
 | [], _ => Nat.zero_le _
 | k :: l, h => by
  rw [List.flatMap_cons, List.length_append, List.length_cons, Nat.succ_mul, Nat.add_comm]
  exact Nat.add_le_add (flat_len l fun j hj => h j (List.mem_cons_of_mem _ hj)) (h k List.mem_cons_self)
theorem dfs_len : ∀ (n : Nat) {p : List Nat}, Vl p → n + p.length = 5 → (dfs ad n p).length ≤ ub n
 | 0, _, _, _ => Nat.le_refl 1
 | n + 1, p, v, hn => by
  show ((ch ad p).flatMap _).length + 1 ≤ _
  rw [Nat.add_comm]
  exact Nat.add_le_add_left (Nat.le_trans (flat_len _ fun k hk => dfs_len n (v.cons (ch_re hk)) (by rw [List.length_cons]; omega)) (Nat.mul_le_mul_right _ (ch_len v hn))) _
theorem dfs_end : ∀ (n : Nat) {p : List Nat} {k : Nat}, (∃ q ∈ dfs ad n p, q.headD 0 = k) ↔ En ad n (re p) (p.headD 0) k
 | 0, p, k => ⟨fun ⟨q, hq, e⟩ => by rw [List.mem_singleton.mp hq] at e; exact e.symm, fun e => ⟨p, List.mem_cons_self, Eq.symm e⟩⟩
 | n + 1, p, k => by
  constructor
  ·rintro ⟨q, hq, e⟩
   rcases mem_dfs.mp hq with rfl | ⟨m, hm, hq⟩
   ·exact .inl e.symm
   ·have := (dfs_end n).mp ⟨q, hq, e⟩
    rw [re_cons] at this
    exact .inr ⟨m, ch_re hm, (List.mem_filter.mp hm).2, this⟩
  ·rintro (rfl | ⟨m, hm, a, e⟩)
   ·exact ⟨p, dfs_self _ _, rfl⟩
   ·rw [← re_cons] at e
    obtain ⟨q, hq, e⟩ := (dfs_end n (p := m :: p)).mpr e
    exact ⟨q, mem_dfs.mpr (.inr ⟨m, List.mem_filter.mpr ⟨hm, a⟩, hq⟩), e⟩
noncomputable def sub (ad : Nat → Nat → Bool) (p : List Nat) : List (List Nat) := dfs ad (5 - p.length) p
theorem sub_eq {p : List Nat} (v : Vl p) : sub ad p = p :: (ch ad p).flatMap fun k => sub ad (k :: p) := by
 unfold sub
 have := v.len
 have h0 : 0 < p.length := List.length_pos_iff.mpr v.ne
 cases e : 5 - p.length with
 | zero =>
  have h : (ch ad p).length ≤ 0 := ch_len v (by omega)
  rw [List.length_eq_zero_iff.mp (Nat.le_zero.mp h)]; rfl
 | succ n =>
  show p :: _ = _
  have : ∀ k, 5 - (k :: p).length = n := fun k => by rw [List.length_cons]; omega
  simp only [this]
theorem vl0 : Vl [0] := ⟨by simp, by simp, fun k hk => by rw [List.mem_singleton.mp hk]; decide⟩
theorem sub_len : (sub ad [0]).length ≤ 65 := dfs_len 4 vl0 rfl
end
end Go
end
section
namespace Go
structure Ns (ns : List Str) : Prop where
 len : ns.length = 5
 nm : ∀ x ∈ ns, Nm x
 nd : ns.Nodup
noncomputable def nmS (ns : List Str) (k : Nat) : Str := ns.getD k slash
noncomputable def key (ns : List Str) (p : List Nat) : Str := pathS (p.reverse.map (nmS ns))
section
variable {ns : List Str} (N : Ns ns)
include N
theorem nmS_at {k : Nat} (h : k < 5) : ns[k]? = some (nmS ns k) := by
 unfold nmS
 rw [List.getD_eq_getElem?_getD, List.getElem?_eq_getElem (by rw [N.len]; exact h)]; rfl
theorem nmS_nm {k : Nat} (h : k < 5) : Nm (nmS ns k) := N.nm _ (List.mem_of_getElem? (nmS_at N h))
theorem nmS_inj {k m : Nat} (h : k < 5) (h' : m < 5) (e : nmS ns k = nmS ns m) : k = m := (List.getElem?_inj (by rw [N.len]; exact h) N.nd).mp (by rw [nmS_at N h, nmS_at N h', e])
theorem map_inj {a b : List Nat} (ha : ∀ k ∈ a, k < 5) (hb : ∀ k ∈ b, k < 5) (e : a.map (nmS ns) = b.map (nmS ns)) : a = b := by
 induction a generalizing b with
 | nil => cases b with
  | nil => rfl
  | cons _ _ => cases e
 | cons k a ih => cases b with
  | nil => cases e
  | cons m b =>
   obtain ⟨e1, e2⟩ := List.cons.inj e
   rw [nmS_inj N (ha k List.mem_cons_self) (hb m List.mem_cons_self) e1, ih (fun j hj => ha j (List.mem_cons_of_mem _ hj)) (fun j hj => hb j (List.mem_cons_of_mem _ hj)) e2]
theorem rev_nm {p : List Nat} (v : Vl p) : ∀ x ∈ p.reverse.map (nmS ns), Nm x := fun x hx => by
 obtain ⟨k, hk, rfl⟩ := List.mem_map.mp hx
 exact nmS_nm N (v.lt k (List.mem_reverse.mp hk))
omit N in
theorem rev_ne {p : List Nat} (v : Vl p) : p.reverse.map (nmS ns) ≠ [] := fun e => v.ne (List.reverse_eq_nil_iff.mp (List.map_eq_nil_iff.mp e))
omit N in
theorem key_cons (p : List Nat) (k : Nat) : key ns (k :: p) = pathS (p.reverse.map (nmS ns) ++ [nmS ns k]) := by
 unfold key; rw [List.reverse_cons, List.map_append]; rfl
theorem key_split {p : List Nat} (v : Vl p) : Txt.split (key ns p) slash = Str.ofString "" :: p.reverse.map (nmS ns) := split_pathS (rev_ne v) (rev_nm N v)
theorem key_inj {p q : List Nat} (v : Vl p) (u : Vl q) (e : key ns p = key ns q) : p = q := by
 have e1 := key_split N v
 rw [e, key_split N u] at e1
 exact List.reverse_inj.mp (map_inj N (fun k hk => v.lt k (List.mem_reverse.mp hk)) (fun k hk => u.lt k (List.mem_reverse.mp hk)) (List.cons.inj e1).2.symm)
theorem key_join {p : List Nat} (v : Vl p) {k : Nat} (h : k < 5) : joinS (key ns p) (nmS ns k) = key ns (k :: p) := by
 rw [key_cons]; exact join_snoc (rev_ne v) (rev_nm N v) (nmS_nm N h)
theorem key_base {p : List Nat} {k : Nat} (h : k < 5) : baseS (key ns (k :: p)) = nmS ns k := by
 rw [key_cons]; exact base_snoc (nmS_nm N h)
theorem key_dir {p : List Nat} (v : Vl p) {k : Nat} (h : k < 5) : dirS (key ns (k :: p)) = key ns p := by
 rw [key_cons]; exact dir_snoc (rev_ne v) (rev_nm N v) (nmS_nm N h)
theorem key_len {p : List Nat} (v : Vl p) : (key ns p).length ≤ 105 := by
 have := v.len
 exact Nat.le_trans (pathS_length (rev_nm N v)) (by rw [List.length_map, List.length_reverse]; omega)
theorem key_slash {p : List Nat} (v : Vl p) : key ns p ≠ slash := fun e => by
 obtain ⟨l, a, h, ha⟩ := snoc_last (rev_ne v) (rev_nm N v)
 have e : (pathS (p.reverse.map (nmS ns))).cps.toList = [] ++ [47] := by
  show (key ns p).cps.toList = _
  rw [e, slash_toList]; rfl
 rw [h] at e
 exact ha (List.cons.inj (List.append_inj_right' e rfl)).1
omit N in
theorem lt_app (l : List Nat) (a : Nat) (t : List Nat) : l < l ++ a :: t := by
 induction l with
 | nil => exact List.nil_lt_cons _ _
 | cons b l ih => exact List.cons_lt_cons_iff.mpr (.inr ⟨rfl, ih⟩)
omit N in
theorem key_lt {p : List Nat} {k : Nat} : ltS (key ns p) (key ns (k :: p)) = true := by
 rw [ltS_lt, key_cons, toList_pathS, pathL_append, pathL_one]
 unfold key
 rw [toList_pathS]
 exact lt_app _ _ _
omit N in
theorem sort_congr {a b : List Str} (h : a.Perm b) : sortS a = sortS b := sorted_unique (sortS_sorted a) (sortS_sorted b) (((sortS_perm a).trans h).trans (sortS_perm b).symm)
omit N in
theorem rising_of : ∀ {xs : List Str}, xs.Pairwise leS → xs.Nodup → rising xs = true
 | [], _, _ => rfl
 | [_], _, _ => rfl
 | a :: b :: r, hp, hn => by
  rw [List.pairwise_cons] at hp
  rw [List.nodup_cons] at hn
  unfold rising
  rw [Bool.and_eq_true]
  refine ⟨?_, rising_of hp.2 hn.2⟩
  cases q : ltS a b with
  | true => rfl
  | false => exact absurd (leS_antisymm (hp.1 b List.mem_cons_self) q) fun e => hn.1 (e ▸ List.mem_cons_self)
omit N in
theorem rising_sort {xs : List Str} (hn : xs.Nodup) : rising (sortS xs) = true := rising_of (sortS_sorted xs) ((sortS_perm xs).nodup_iff.mpr hn)
omit N in
theorem unmap {α β : Type} {f : α → β} : ∀ {B : List α} {l : List β}, l.Perm (B.map f) → ∃ L : List α, L.Perm B ∧ l = L.map f
 | [], l, h => ⟨[], .refl _, h.eq_nil⟩
 | b :: B, l, h => by
  obtain ⟨s, t, rfl⟩ := List.append_of_mem (h.mem_iff.mpr (List.mem_cons_self (a := f b)))
  obtain ⟨L, p, e⟩ := unmap ((List.perm_middle.symm.trans h).cons_inv)
  obtain ⟨l1, l2, rfl, rfl, rfl⟩ := List.append_eq_map_iff.mp e
  exact ⟨l1 ++ b :: l2, List.perm_middle.trans (p.cons b), by rw [List.map_append]; rfl⟩
omit N in
theorem sorted_as {α : Type} (f : α → Str) (B : List α) : ∃ L : List α, L.Perm B ∧ sortS (B.map f) = L.map f := unmap (sortS_perm _)
theorem less_names {L p : List Nat} (hL : ∀ k ∈ L, k < 5) (v : Vl p) : lessS (L.map (nmS ns)) (sortS (p.reverse.map (nmS ns))) = (L.filter fun k => !p.contains k).map (nmS ns) := by
 unfold lessS
 rw [List.filter_map]
 congr 1
 refine List.filter_congr fun k hk => ?_
 show (!_) = (!_)
 congr 1
 rw [Bool.eq_iff_iff, List.contains_iff_mem, List.contains_iff_mem, (sortS_perm _).mem_iff, List.mem_map]
 constructor
 ·rintro ⟨m, hm, e⟩
  have hm := List.mem_reverse.mp hm
  rw [← nmS_inj N (v.lt m hm) (hL k hk) e]; exact hm
 ·intro h; exact ⟨k, List.mem_reverse.mpr h, rfl⟩
end
section
variable {γ : Type} {key : γ → Str} {f : γ → D}
theorem look_map : ∀ {B : List γ}, (∀ a ∈ B, ∀ b ∈ B, key a = key b → a = b) → ∀ {p : γ}, p ∈ B → lookD (B.map key) (B.map f) (key p) = some (f p)
 | q :: B, hB, p, hp => by
  show (if key q = key p then _ else lookD (B.map key) (B.map f) (key p)) = _
  by_cases e : key q = key p
  ·rw [if_pos e, hB q List.mem_cons_self p hp e]
  ·have hp := (List.mem_cons.mp hp).resolve_left fun h => e (by rw [h])
   rw [if_neg e]
   exact look_map (fun r hr s hs => hB r (List.mem_cons_of_mem _ hr) s (List.mem_cons_of_mem _ hs)) hp
theorem store_map [DecidableEq γ] : ∀ {B : List γ}, (∀ a ∈ B, ∀ b ∈ B, key a = key b → a = b) → B.Nodup → ∀ {p : γ} (d : D), p ∈ B → storeD (B.map key) (B.map f) (key p) d = (B.map key, B.map fun q => if q = p then d else f q)
 | q :: B, hB, hn, p, d, hp => by
  obtain ⟨h1, h2⟩ := List.nodup_cons.mp hn
  show (if key q = key p then _ else (_ :: (storeD (B.map key) (B.map f) (key p) d).1, f q :: (storeD (B.map key) (B.map f) (key p) d).2)) = (_, (if q = p then d else f q) :: _)
  by_cases e : key q = key p
  ·have := hB q List.mem_cons_self p hp e
   subst this
   rw [if_pos rfl, if_pos rfl]
   refine Prod.ext rfl (congrArg (d :: ·) (List.map_congr_left fun r hr => (if_neg ?_).symm))
   rintro rfl; exact h1 hr
  ·have hp := (List.mem_cons.mp hp).resolve_left fun h => e (by rw [h])
   rw [if_neg e, if_neg fun h => e (by rw [h]), store_map (fun r hr s hs => hB r (List.mem_cons_of_mem _ hr) s (List.mem_cons_of_mem _ hs)) h2 d hp]
   rfl
end
section
variable {ns : List Str} (N : Ns ns)
include N
theorem keys_inj {B : List (List Nat)} (hB : ∀ q ∈ B, Vl q) : ∀ a ∈ B, ∀ b ∈ B, key ns a = key ns b → a = b := fun a ha b hb e => key_inj N (hB a ha) (hB b hb) e
theorem key_mem {B : List (List Nat)} (hB : ∀ q ∈ B, Vl q) {p : List Nat} (v : Vl p) : key ns p ∈ B.map (key ns) ↔ p ∈ B := by
 rw [List.mem_map]
 exact ⟨fun ⟨q, hq, e⟩ => key_inj N (hB q hq) v e ▸ hq, fun h => ⟨p, h, rfl⟩⟩
theorem keys_nodup {B : List (List Nat)} (hB : ∀ q ∈ B, Vl q) (hn : B.Nodup) : (B.map (key ns)).Nodup :=
 List.pairwise_map.mpr (hn.imp_of_mem fun {a b} ha hb hab e => hab (key_inj N (hB a ha) (hB b hb) e))
end
theorem store_new : ∀ (ks : List Str) (ds : List D) (x : Str) (v : D), x ∉ ks → ks.length = ds.length → storeD ks ds x v = (ks ++ [x], ds ++ [v])
 | [], [], _, _, _, _ => rfl
 | k :: ks, d :: ds, x, v, hn, hl => by
  have hk : k ≠ x := fun e => hn (by rw [e]; exact List.mem_cons_self)
  have ih := store_new ks ds x v (fun q => hn (List.mem_cons_of_mem _ q)) (Nat.succ.inj hl)
  show (if k = x then (k :: ks, v :: ds) else (k :: (storeD ks ds x v).1, d :: (storeD ks ds x v).2)) = _
  rw [if_neg hk, ih]; rfl
 | [], _ :: _, _, _, _, hl => nomatch hl
 | _ :: _, [], _, _, _, hl => nomatch hl
theorem putAll_aux : ∀ (kvs : List (Str × D)) (ks : List Str) (ds : List D), ks.length = ds.length → (ks ++ kvs.map (·.1)).Nodup → kvs.foldl (fun (m : List Str × List D) kv => storeD m.1 m.2 kv.1 kv.2) (ks, ds) = (ks ++ kvs.map (·.1), ds ++ kvs.map (·.2))
 | [], ks, ds, _, _ => by rw [List.map_nil, List.map_nil, List.append_nil, List.append_nil]; rfl
 | kv :: r, ks, ds, hl, hn => by
  have hx : kv.1 ∉ ks := fun q => (List.nodup_append.mp hn).2.2 _ q _ List.mem_cons_self rfl
  rw [List.foldl_cons, store_new ks ds kv.1 kv.2 hx hl, putAll_aux r (ks ++ [kv.1]) (ds ++ [kv.2]) (by rw [List.length_append, List.length_append, hl]; rfl) (by rw [List.append_assoc]; exact hn), List.append_assoc, List.append_assoc]
  rfl
theorem putAll_eq (kvs : List (Str × D)) (hn : (kvs.map (·.1)).Nodup) : putAll kvs = (kvs.map (·.1), kvs.map (·.2)) := putAll_aux kvs [] [] rfl hn
end Go
end
section
namespace Q
open Go
section
variable {γ : Type} {f : D → Option (List V)} {g : γ → D}
theorem cl_map {h : γ → V} : ∀ xs : List γ, (∀ x ∈ xs, f (g x) = some [h x]) → collectM f (xs.map g) = some (xs.map h)
 | [], _ => rfl
 | x :: r, e => by
  rw [List.map_cons, cl_cons, e x List.mem_cons_self, cl_map r fun y hy => e y (List.mem_cons_of_mem _ hy)]; rfl
theorem cl_filter {h : γ → V} {p : γ → Bool} : ∀ xs : List γ, (∀ x ∈ xs, f (g x) = some (if p x then [h x] else [])) → collectM f (xs.map g) = some ((xs.filter p).map h)
 | [], _ => rfl
 | x :: r, e => by
  rw [List.map_cons, cl_cons, e x List.mem_cons_self, cl_filter r fun y hy => e y (List.mem_cons_of_mem _ hy), List.filter_cons]
  cases p x <;> rfl
theorem fst_map (d : γ → D) (xs : List γ) : (xs.map fun x => ((d x, false) : V)).map (·.1) = xs.map d := by rw [List.map_map]; rfl
theorem unt_map (d : γ → D) : ∀ xs : List γ, untaint (xs.map fun x => ((d x, false) : V)) = true
 | [] => rfl
 | _ :: r => unt_map d r
end
section
variable {nm fn : Nat → Str} {FT : List FE} {n : Nat} {sc sc' : Scope} {tp tn : Bool} {r : Rho} {γ : Type} {g : γ → D} {i : Nat} {q pos : Pos} {src e kx vx : X} {ifs : XS} {d : γ → D} {p : γ → Bool} {xs : List γ}
noncomputable def Rx (nm : Nat → Str) (sc' : Scope) (r : Rho) (i : Nat) (v : V) : Rho := fun k => if k = i then some v else inner nm sc' r k
theorem rx_i (v : V) : Rx nm sc' r i v i = some v := if_pos rfl
theorem rx_k {k : Nat} (v : V) (h : (k == i) = false) : Rx nm sc' r i v k = inner nm sc' r k := if_neg (by rintro rfl; rw [beq_self_eq_true] at h; cases h)
theorem lc1 (xs : List γ) (h1 : (compOk sc sc' && varsOk nm sc' (.cons (.one i q) src ifs .nil)) = true) (h2 : evSrc nm fn FT n sc src tp r = some (xs.map g, tn, false)) (h3 : xs.length ≤ listLine)
  (h4 : ∀ x ∈ xs, evIfs nm fn FT n (rel sc sc') ifs (Rx nm sc' r i (itV (g x) tn)) = some (p x)) (h5 : ∀ x ∈ xs, ev nm fn FT (n + 1) (rel sc sc') e false (Rx nm sc' r i (itV (g x) tn)) = some (d x, false)) :
  ev nm fn FT (n + 2) sc (.lcomp e (.cons (.one i q) src ifs .nil) sc' pos) tp r = some (.lst ((xs.filter p).map d), false) := by
 rw [lcomp, if_pos h1, g0, h2]
 dsimp only
 rw [g1, tw1, if_pos (show (false == false) = true from rfl), cl_filter (h := fun x => (d x, false)) (p := p) xs fun x hx => by
  rw [b1]
  dsimp only
  have a := h4 x hx
  have b := h5 x hx
  unfold Rx at a b
  rw [a, b]
  cases p x <;> rfl]
 dsimp only
 rw [if_pos ⟨by rw [List.length_map]; exact Nat.le_trans (List.length_filter_le _ _) h3, unt_map d _⟩, fst_map]
theorem lc0 (xs : List γ) (h1 : (compOk sc sc' && varsOk nm sc' (.cons (.one i q) src .nil .nil)) = true) (h2 : evSrc nm fn FT (n + 1) sc src tp r = some (xs.map g, tn, false)) (h3 : xs.length ≤ listLine)
  (h5 : ∀ x ∈ xs, ev nm fn FT (n + 2) (rel sc sc') e false (Rx nm sc' r i (itV (g x) tn)) = some (d x, false)) :
  ev nm fn FT (n + 3) sc (.lcomp e (.cons (.one i q) src .nil .nil) sc' pos) tp r = some (.lst (xs.map d), false) := by
 rw [lc1 (p := fun _ => true) xs h1 h2 h3 (fun _ _ => inil) h5, List.filter_eq_self.mpr fun _ _ => rfl]
theorem kvs_map (key : γ → Str) (d : γ → D) : ∀ xs : List γ, kvsOf (xs.map fun x => .tup [.str (key x), d x]) = some (xs.map fun x => (key x, d x))
 | [] => rfl
 | x :: r => by rw [List.map_cons, kv_cons, kvs_map key d r]; rfl
theorem dc0 {key : γ → Str} (xs : List γ) (h1 : (compOk sc sc' && varsOk nm sc' (.cons (.one i q) src .nil .nil) && GS.single (.cons (.one i q) src .nil .nil)) = true) (h2 : evSrc nm fn FT (n + 1) sc src tp r = some (xs.map g, tn, false)) (h3 : xs.length ≤ listLine)
  (h4 : ∀ x ∈ xs, ev nm fn FT (n + 2) (rel sc sc') kx false (Rx nm sc' r i (itV (g x) tn)) = some (.str (key x), false)) (h5 : ∀ x ∈ xs, ev nm fn FT (n + 2) (rel sc sc') vx false (Rx nm sc' r i (itV (g x) tn)) = some (d x, false)) (h6 : (xs.map key).Nodup) :
  ev nm fn FT (n + 3) sc (.dcomp kx vx (.cons (.one i q) src .nil .nil) sc' pos) tp r = some (.dct (xs.map key) (xs.map d), false) := by
 rw [dcomp, if_pos h1, g0, h2]
 dsimp only
 rw [g1, tw1, if_pos (show (false == false) = true from rfl), cl_map (h := fun x => (.tup [.str (key x), d x], false)) xs fun x hx => by
  rw [b1]
  dsimp only
  have a := h4 x hx
  have b := h5 x hx
  unfold Rx at a b
  rw [inil]
  dsimp only
  rw [a, b]]
 dsimp only
 rw [if_pos (by rw [List.length_map]; exact h3), fst_map (fun x => D.tup [.str (key x), d x]), kvs_map, map_some]
 have e1 : (xs.map fun x => (key x, d x)).map (·.1) = xs.map key := by rw [List.map_map]; rfl
 have e2 : (xs.map fun x => (key x, d x)).map (·.2) = xs.map d := by rw [List.map_map]; rfl
 rw [putAll_eq _ (by rw [e1]; exact h6), e1, e2]
end
theorem loop_l {γ : Type} {f : Sta → Option (Fl × Sta)} {tg : Tg} {g : γ → D} (I : List γ → Sta → Prop) : ∀ (items done : List γ) (S : Sta), I done S →
  (∀ d x r S, done ++ items = d ++ x :: r → I d S → ∃ S₁, bindS tg (g x) S = some S₁ ∧ ∃ S₂, f S₁ = some (.next, S₂) ∧ I (d ++ [x]) S₂) →
  ∃ S', loopF f tg (items.map g) S = some (.next, S') ∧ I (done ++ items) S'
 | [], done, S, h, _ => ⟨S, rfl, by rw [List.append_nil]; exact h⟩
 | x :: r, done, S, h, st => by
  obtain ⟨S₁, e1, S₂, e2, e3⟩ := st done x r S rfl h
  obtain ⟨S', e4, e5⟩ := loop_l I r (done ++ [x]) S₂ e3 fun d y q S hd => st d y q S (by rw [← hd, List.append_assoc]; rfl)
  refine ⟨S', ?_, by rw [List.append_assoc] at e5; exact e5⟩
  rw [List.map_cons, lp_cons, e1]
  dsimp only
  rw [e2]
  exact e4
end Q
namespace L1
open Go
noncomputable def intsD (l : List Nat) : List D := l.map fun k => .int (k : Nat)
noncomputable def nearD (ad : Nat → Nat → Bool) : D := .lst ((List.range 5).map fun k => .lst (intsD ((List.range 5).filter (ad k))))
noncomputable def namesD (ns : List Str) : D := .lst (ns.map .str)
noncomputable def wayD (p : List Nat) : D := .lst (intsD p.reverse)
noncomputable def strD (ns : List Str) (q : List Nat) : D := .str (key ns q)
noncomputable def waysD (ns : List Str) (ps : List (List Nat)) : D := .lst (ps.map (strD ns))
theorem near_at (ad : Nat → Nat → Bool) {k : Nat} (h : k < 5) : itemD (nearD ad) (.int (k : Nat)) = some (.lst (intsD ((List.range 5).filter (ad k)))) := by
 unfold nearD
 rw [Q.itL, Q.idxN _ _ (by rw [List.length_map, List.length_range]; exact h), Q.bind_some, if_pos (by rw [List.length_map, List.length_range]; decide), List.getElem?_map, List.getElem?_range h]
 rfl
theorem name_at {ns : List Str} (N : Ns ns) {k : Nat} (h : k < 5) : itemD (namesD ns) (.int (k : Nat)) = some (.str (nmS ns k)) := by
 unfold namesD
 rw [Q.itL, Q.idxN _ _ (by rw [List.length_map, N.len]; exact h), Q.bind_some, if_pos (by rw [List.length_map, N.len]; decide), List.getElem?_map, nmS_at N h]
 rfl
theorem ints_snoc (l : List Nat) (k : Nat) : intsD (l ++ [k]) = intsD l ++ [.int (k : Nat)] := by unfold intsD; rw [List.map_append]; rfl
theorem ints_len (l : List Nat) : (intsD l).length = l.length := List.length_map _
theorem ints_of (l : List Nat) : intsOf (intsD l) = some (l.map fun k => ((k : Nat) : Int)) := by
 have := Q.intsOf_map (l.map fun k => ((k : Nat) : Int))
 rw [List.map_map] at this; exact this
theorem any_of (l : List Nat) (k : Nat) : ((l.map fun k => ((k : Nat) : Int)).any fun y => y == ((k : Nat) : Int)) = l.contains k := by
 induction l with
 | nil => rfl
 | cons a l ih =>
  rw [List.map_cons, List.any_cons, ih, List.contains_cons]
  congr 1
  rw [Bool.eq_iff_iff, beq_iff_eq, beq_iff_eq, Int.ofNat_inj]; exact eq_comm
theorem way_last (v : Nat) (r : List Nat) (h : r.length ≤ 100) : itemD (wayD (v :: r)) (.int (-1)) = some (.int (v : Nat)) := by
 unfold wayD
 have hl : (intsD r.reverse).length = r.length := by rw [ints_len, List.length_reverse]
 rw [List.reverse_cons, ints_snoc, Q.itL, List.length_append, hl, List.length_singleton, Q.idxNeg, Q.bind_some, if_pos (Nat.le_trans (Nat.succ_le_succ h) (by decide)), List.getElem?_append_right (by rw [hl]; exact Nat.le_refl _), hl, Nat.sub_self]
 rfl
theorem glue_toList : ∀ xs : List Str, (Str.join (Str.ofString "") xs).cps.toList = xs.flatMap fun x => x.cps.toList
 | [] => rfl
 | [x] => by rw [List.flatMap_cons, List.flatMap_nil, List.append_nil]; rfl
 | x :: y :: r => by
  have ih := glue_toList (y :: r)
  show ((x ++ Str.ofString "" ++ Str.join (Str.ofString "") (y :: r)) : Str).cps.toList = _
  rw [append_toList, append_toList, empty_toList, List.append_nil, ih]; rfl
theorem glue_names (ns : List Str) (p : List Nat) : Txt.join (Str.ofString "") (p.reverse.map fun k => slash ++ nmS ns k) = key ns p := by
 apply str_ext
 show (Builtin.Str.glued _ _).cps.toList = _
 rw [StrLaws.glued_eq_join, glue_toList]
 unfold key
 rw [toList_pathS]
 unfold pathL
 rw [List.flatMap_map, List.flatMap_map]
 congr 1; funext k
 rw [append_toList, slash_toList]; rfl
theorem glue_len (f : Nat → Str) (m : Nat) : ∀ l : List Nat, (∀ k ∈ l, (f k).length ≤ m) → sumLen (l.map f) ≤ l.length * m
 | [], _ => Nat.zero_le _
 | k :: l, h => by
  show (f k).length + sumLen (l.map f) ≤ _
  rw [List.length_cons, Nat.succ_mul, Nat.add_comm]
  exact Nat.add_le_add (glue_len f m l fun j hj => h j (List.mem_cons_of_mem _ hj)) (h k List.mem_cons_self)
theorem glue_D {ns : List Str} (N : Ns ns) {p : List Nat} (v : Vl p) : meD .join (.str (Str.ofString "")) [.lst (p.reverse.map fun k => .str (slash ++ nmS ns k))] = some (strD ns p) := by
 have e : (p.reverse.map fun k => D.str (slash ++ nmS ns k)) = (p.reverse.map fun k => slash ++ nmS ns k).map .str := by rw [List.map_map]; rfl
 have h1 := v.len
 have h2 : sumLen (p.reverse.map fun k => slash ++ nmS ns k) ≤ p.reverse.length * 21 := glue_len _ _ _ fun k hk => by
  rw [Str.length_append]
  exact Nat.add_le_add_left (nmS_nm N (v.lt k (List.mem_reverse.mp hk))).le 1
 rw [List.length_reverse] at h2
 have h3 : sumLen (p.reverse.map fun k => slash ++ nmS ns k) + (p.reverse.map fun k => slash ++ nmS ns k).length ≤ strLine := by
  rw [List.length_map, List.length_reverse]; unfold strLine; omega
 rw [e, Q.mjn, Q.strsOf_map, Q.bind_some, glue_names, if_pos ⟨Nat.zero_le _, h3⟩]; rfl
section
variable {ns : List Str} (N : Ns ns) {FT : List FE} {tp : Bool}
include N
theorem ways_one {n : Nat} {S : Sta} {p : List Nat} (v : Vl p) (c : Nat) (h22 : S 22 = some (.fr (wayD p))) (h23 : S 23 = some (.fr (namesD ns))) :
  exS nm fn FT sF_law_ways tp (n + 20) (Sw0 c) S = some (.next, S.put 24 (.li [strD ns p])) := by
 have r22 : rhoT S 22 = some (itV (wayD p) true) := by rw [Q.rhoT_at, h22]; rfl
 have r23 : rhoT S 23 = some (itV (namesD ns) true) := by rw [Q.rhoT_at, h23]; rfl
 have h1 := v.len
 have hl : p.reverse.length ≤ 100000 := by rw [List.length_reverse]; omega
 have hl' : (intsD p.reverse).length ≤ listLine := by rw [ints_len]; exact hl
 have hj := glue_D N v
 simp only [Sw0, Q.own, Q.list, Q.cons, Q.nil, Q.meth, Q.str]
 rw [Q.lc0 (d := fun k => .str (slash ++ nmS ns k)) (g := fun k : Nat => D.int (k : Nat)) (tn := true) p.reverse ?_ ?_ hl fun k hk => ?_]
 ·simp only [Q.unt_cons, Q.unt_nil, List.map_cons, List.map_nil, hj, Q.map_some, List.length_cons, List.length_nil, Nat.zero_add, strD, Q.itV_s, k_law_ways, Q.sw_list, Bool.and_self, if_true, Bool.not_false, Q.so_li, Q.at_s, List.all_cons, List.all_nil, Bool.not_true, Bool.or_false, Nat.reduceLT, Nat.reduceLeDiff, and_self, decide_true, beq_self_eq_true, Q.ba_str]
 ·simp only [k_law_ways, Bool.and_self]
 ·simp only [Q.svar, Q.var, r22]
  unfold wayD
  show srcOf (some (.lst _, true)) = _
  rw [Q.sr_l, if_pos hl']; rfl
 ·have h5 := v.lt k (List.mem_reverse.mp hk)
  have hL : slash.length + (nmS ns k).length ≤ 100000 := by
   have := (nmS_nm N h5).le
   show 1 + _ ≤ _; omega
  simp only [Q.bin, Q.str, Q.item, Q.var, Q.rx_i, Q.rx_k, k_law_ways, r23, Q.itV_i, Nat.reduceBEq]
  show (match some (D.str slash, false), (match some (namesD ns, true), some (D.int (k : Nat), false) with
   | some x, some y => (itemD x.1 y.1).map fun d => itV d x.2
   | _, _ => none) with
   | some x, some y => (binD .add x.1 y.1).map fun d => itV d (x.2 || y.2)
   | _, _ => none) = _
  simp only [name_at N h5, Q.map_some, Q.itV_s, Q.addS, strLine, hL, if_true]
omit N in
theorem ub_le {n : Nat} (h : n < 5) : ub n ≤ 65 := by
 revert n; decide
theorem ways_run {ad : Nat → Nat → Bool} {ex : Bool} {p : List Nat} {n c : Nat} (v : Vl p) (hn : n + p.length = 5) (H : ∀ k ∈ ch ad p, ∃ E, FT[c]? = some E ∧ E.exact = true ∧ isG sF_law_ways (fn c) = true ∧ E.g [wayD (k :: p), nearD ad, namesD ns] = some (waysD ns (dfs ad (n - 1) (k :: p)))) :
  gOf nm fn FT sF_law_ways ex (bF_law_ways c) pF_law_ways (pdN 3) [wayD p, nearD ad, namesD ns] = some (waysD ns (p :: (ch ad p).flatMap fun k => dfs ad (n - 1) (k :: p))) := by
 refine Q.gOf_ex (ds' := [wayD p, nearD ad, namesD ns]) rfl rfl ?_
 generalize (!ex) = tp
 generalize hS : staOf pF_law_ways [wayD p, nearD ad, namesD ns] = S
 have h22 : S 22 = some (.fr (wayD p)) := by rw [← hS]; rfl
 have h19 : S 19 = some (.fr (nearD ad)) := by rw [← hS]; rfl
 have h23 : S 23 = some (.fr (namesD ns)) := by rw [← hS]; rfl
 clear hS
 obtain ⟨v0, r, rfl⟩ : ∃ v0 r, p = v0 :: r := by
  cases p with
  | nil => exact absurd rfl v.ne
  | cons a r => exact ⟨a, r, rfl⟩
 have h5 := v.lt v0 List.mem_cons_self
 have s0 := ways_one N (FT := FT) (tp := tp) (n := 179) v c h22 h23
 generalize hp : v0 :: r = p at *
 have hb : ∀ k ∈ ch ad p, (dfs ad (n - 1) (k :: p)).length ≤ 65 := fun k hk => by
  have h1 := ch_len (ad := ad) v hn
  have h2 := List.length_pos_of_mem hk
  have h3 := v.len
  have h0 : 0 < p.length := List.length_pos_iff.mpr v.ne
  exact Nat.le_trans (dfs_len (n - 1) (v.cons (ch_re hk)) (by rw [List.length_cons]; omega)) (ub_le (by omega))
 obtain ⟨S2, e2, i2⟩ := Q.loop_l (f := exB nm fn FT sF_law_ways tp 197 (Bw1 c)) (tg := .one 11 ⟨232,8,232,9⟩) (g := fun k : Nat => D.int (k : Nat)) (fun d S' => S' 24 = some (.li ((p :: (d.filter fun k => !p.contains k).flatMap fun k => dfs ad (n - 1) (k :: p)).map (strD ns))) ∧ Q.Off [11, 24] S S') ((List.range 5).filter (ad v0)) [] (S.put 24 (.li [strD ns p])) ⟨Q.put_get, Q.Off.refl.put (i := 24) (by decide)⟩ fun d k rest S1 hd ⟨i1, i2⟩ => by
  have r22 : rhoOf S1 22 = some (wayD p, false) := Q.rho S1 22 _ ((i2 22 (by decide)).trans h22)
  have r19 : rhoOf S1 19 = some (nearD ad, false) := Q.rho S1 19 _ ((i2 19 (by decide)).trans h19)
  have r23 : rhoOf S1 23 = some (namesD ns, false) := Q.rho S1 23 _ ((i2 23 (by decide)).trans h23)
  have hin : inD (.int (k : Nat)) (wayD p) = some (p.contains k) := by
   unfold wayD
   rw [Q.inIL, ints_of, Q.map_some, any_of]
   congr 1
   rw [Bool.eq_iff_iff, List.contains_iff_mem, List.contains_iff_mem, List.mem_reverse]
  have hk : k ∈ (List.range 5).filter (ad v0) := by rw [← List.nil_append (List.filter _ _), hd]; exact List.mem_append_right _ List.mem_cons_self
  refine ⟨_, rfl, ?_⟩
  simp only [Bw1, Sw1_0, Q.bcons, Q.bnil, Q.sif, Q.tcmp, Q.var, Q.rho_put, if_true, if_false, Nat.reduceEqDiff, r22, Q.d_fr, Q.o_fr, Q.notIn, hin, Q.map_some]
  cases hc : p.contains k with
  | true => 
   refine ⟨_, rfl, ?_, i2.put (i := 11) (by decide)⟩
   rw [Q.put_at, if_neg (by decide), List.filter_append, List.filter_cons, if_neg (by rw [hc]; simp), List.filter_nil, List.append_nil]
   exact i1
  | false =>
   have hk' : k ∈ ch ad p := by
    subst hp
    refine List.mem_filter.mpr ⟨mem_re.mpr ⟨List.mem_range.mp (List.mem_filter.mp hk).1, fun q => ?_⟩, (List.mem_filter.mp hk).2⟩
    rw [List.contains_iff_mem.mpr q] at hc; cases hc
   obtain ⟨E, f1, f2, f3, f4⟩ := H k hk'
   have ea : binD .add (wayD p) (.lst [.int (k : Nat)]) = some (wayD (k :: p)) := by
    have := v.len
    unfold wayD
    rw [Q.addL, if_pos (by rw [ints_len, List.length_reverse]; unfold listLine; show _ + 1 ≤ _; omega), List.reverse_cons, ints_snoc]
   have l1 : ((p :: (d.filter fun k => !p.contains k).flatMap fun k => dfs ad (n - 1) (k :: p)).map (strD ns)).length ≤ 100000 := by
    have h1 : (d.filter fun k => !p.contains k).length ≤ 5 := by
     have e := congrArg List.length hd
     rw [List.nil_append, List.length_append] at e
     have e1 := List.length_filter_le (ad v0) (List.range 5)
     rw [List.length_range] at e1
     have e2 := List.length_filter_le (fun k => !p.contains k) d
     omega
    have h2 := flat_len (f := fun k => dfs ad (n - 1) (k :: p)) (m := 65) (d.filter fun k => !p.contains k) fun m hm => hb m (by
     obtain ⟨a, b⟩ := List.mem_filter.mp hm
     have hm' : m ∈ (List.range 5).filter (ad v0) := by rw [← List.nil_append (List.filter _ _), hd]; exact List.mem_append_left _ a
     subst hp
     exact List.mem_filter.mpr ⟨mem_re.mpr ⟨List.mem_range.mp (List.mem_filter.mp hm').1, fun q => by rw [List.contains_iff_mem.mpr q] at b; cases b⟩, (List.mem_filter.mp hm').2⟩)
    rw [List.length_map, List.length_cons]
    have := Nat.mul_le_mul_right 65 h1
    omega
   have l2 : ((dfs ad (n - 1) (k :: p)).map (strD ns)).length ≤ 100000 := by
    rw [List.length_map]; exact Nat.le_trans (hb k hk') (by decide)
   have key : (p :: ((d ++ [k]).filter fun k => !p.contains k).flatMap fun k => dfs ad (n - 1) (k :: p)).map (strD ns) = (p :: (d.filter fun k => !p.contains k).flatMap fun k => dfs ad (n - 1) (k :: p)).map (strD ns) ++ (dfs ad (n - 1) (k :: p)).map (strD ns) := by
    rw [List.filter_append, List.filter_cons, if_pos (by rw [hc]; rfl), List.filter_nil, List.flatMap_append, List.flatMap_cons, List.flatMap_nil, List.append_nil, ← List.map_append]; rfl
   rw [key]
   generalize (p :: (d.filter fun k => !p.contains k).flatMap fun k => dfs ad (n - 1) (k :: p)).map (strD ns) = A at i1 l1 ⊢
   have l3 : ((dfs ad (n - 1) (k :: p)).map (strD ns)).all D.atom = true := by
    rw [List.all_eq_true]; intro x hx; obtain ⟨z, _, rfl⟩ := List.mem_map.mp hx; rfl
   refine ⟨(S1.put 11 (.fr (.int (k : Nat)))).put 24 (.li (A ++ (dfs ad (n - 1) (k :: p)).map (strD ns))), ?_, Q.put_get, (i2.put (i := 11) (by decide)).put (i := 24) (by decide)⟩
   simp only [Bool.not_false, Q.ext, Q.call, Q.cons, Q.nil, Q.bin, Q.list, Q.var, Q.put_at, Q.rho_put, if_true, if_false, Nat.reduceEqDiff, Q.d_fr, Q.o_fr, r22, r19, r23, i1, f1, f2, f3, ea, Q.map_some, Q.unt_cons, Q.unt_nil, List.map_cons, List.map_nil, List.length_cons, List.length_nil, Nat.zero_add, Nat.reduceLeDiff, Q.itV_ff, Bool.or_false, Bool.and_self, Bool.or_true, decide_true, and_self, Nat.reduceLT, Bool.not_true, f4, waysD, k_law_ways, l1, l2, l3, listLine, Nat.reduceAdd]
 rw [List.nil_append] at i2
 have e3 : (((List.range 5).filter (ad v0)).filter fun k => !p.contains k) = ch ad p := by
  subst hp
  show _ = (re _).filter _
  unfold re
  rw [List.filter_filter, List.filter_filter]
  congr 1; funext k
  exact Bool.and_comm _ _
 rw [e3] at i2
 have hsrc : evSrc nm fn FT 197 sF_law_ways (Xw1 c) tp (rhoOf (S.put 24 (.li [strD ns p]))) = some (((List.range 5).filter (ad v0)).map fun k : Nat => D.int (k : Nat), false, false) := by
  have r22 := Q.rho S 22 _ h22
  have r19 := Q.rho S 19 _ h19
  have hw : itemD (wayD p) (.int (-1)) = some (.int (v0 : Nat)) := by
   have := v.len
   subst hp
   exact way_last v0 r (by rw [List.length_cons] at this; omega)
  have hl : (intsD ((List.range 5).filter (ad v0))).length ≤ 100000 := by rw [ints_len]; exact Nat.le_trans (List.length_filter_le _ _) (by decide)
  simp only [Xw1, Q.sitem, Q.item, Q.var, Q.neg, Q.int, Q.rho_put, if_false, Nat.reduceEqDiff, r22, r19, Q.d_fr, Q.o_fr, hw, Q.map_some, near_at ad h5, Q.itV_ff, Q.sr_l, listLine, hl, if_true]
  rfl
 refine ⟨S2.put 24 (.fr (waysD ns (p :: (ch ad p).flatMap fun k => dfs ad (n - 1) (k :: p)))), ?_⟩
 show exB nm fn FT sF_law_ways tp 200 (.cons (Sw0 c) _) S = _
 rw [Q.bcons, s0]
 dsimp only
 rw [Q.bcons, Sw1, Q.sfor, hsrc]
 simp only [Q.tw1, Q.tv1, k_law_ways, List.all_cons, List.all_nil, Bool.and_true, beq_self_eq_true, if_true, e2, Sw2, Sw3, Q.bcons, Q.sfrz, i2.1, Q.d_li, Q.sret, Q.var, Q.rho_put, if_true, Q.d_fr, Q.o_fr, waysD]
end
section
variable {ns : List Str} (N : Ns ns) {ad : Nat → Nat → Bool}
include N
theorem kg14 : isG sF_law_ways (fn 14) = true ∧ isG sF_law_ways (fn 15) = true ∧ isG sF_law_ways (fn 16) = true ∧ isG sF_law_ways (fn 17) = true := by simp only [k_law_ways, and_self]
theorem ways0 (p : List Nat) (v : Vl p) (hn : 0 + p.length = 5) : E14.g [wayD p, nearD ad, namesD ns] = some (waysD ns (dfs ad 0 p)) := by
 have h := List.length_eq_zero_iff.mp (Nat.le_zero.mp (ch_len (ad := ad) v hn))
 have := ways_run N (FT := FT14) (ad := ad) (ex := true) (c := 14) v hn fun k hk => by rw [h] at hk; cases hk
 rw [h] at this
 exact this
theorem ways1 (p : List Nat) (v : Vl p) (hn : 1 + p.length = 5) : E15.g [wayD p, nearD ad, namesD ns] = some (waysD ns (dfs ad 1 p)) :=
 ways_run N (FT := FT15) (ad := ad) (ex := true) v hn fun k hk => ⟨E14, rfl, rfl, (kg14 N).1, ways0 N _ (v.cons (ch_re hk)) (by rw [List.length_cons]; omega)⟩
theorem ways2 (p : List Nat) (v : Vl p) (hn : 2 + p.length = 5) : E16.g [wayD p, nearD ad, namesD ns] = some (waysD ns (dfs ad 2 p)) :=
 ways_run N (FT := FT16) (ad := ad) (ex := true) v hn fun k hk => ⟨E15, rfl, rfl, (kg14 N).2.1, ways1 N _ (v.cons (ch_re hk)) (by rw [List.length_cons]; omega)⟩
theorem ways3 (p : List Nat) (v : Vl p) (hn : 3 + p.length = 5) : E17.g [wayD p, nearD ad, namesD ns] = some (waysD ns (dfs ad 3 p)) :=
 ways_run N (FT := FT17) (ad := ad) (ex := true) v hn fun k hk => ⟨E16, rfl, rfl, (kg14 N).2.2.1, ways2 N _ (v.cons (ch_re hk)) (by rw [List.length_cons]; omega)⟩
theorem ways4 (p : List Nat) (v : Vl p) (hn : 4 + p.length = 5) : E18.g [wayD p, nearD ad, namesD ns] = some (waysD ns (dfs ad 4 p)) :=
 ways_run N (FT := FT18) (ad := ad) (ex := true) v hn fun k hk => ⟨E17, rfl, rfl, (kg14 N).2.2.2, ways3 N _ (v.cons (ch_re hk)) (by rw [List.length_cons]; omega)⟩
theorem g_ways : E18.g [.lst [.int 0], nearD ad, namesD ns] = some (waysD ns (sub ad [0])) := ways4 N [0] vl0 rfl
end
end L1
end
section
namespace L1
open Go
theorem tail_D (v : Nat) (T : List Nat) (h : (v :: T).length ≤ 1000) : sliceD (.lst (intsD (v :: T))) (some (.int 1)) none = some (.lst (intsD T)) := by
 have h' : (intsD (v :: T)).length = T.length + 1 := ints_len _
 have hl : T.length + 1 ≤ listLine := Nat.le_trans h (by decide)
 rw [Q.slL, h']
 show (match some (min 1 (T.length + 1)), some (T.length + 1) with
  | some i, some j => if T.length + 1 ≤ listLine then some (D.lst (((intsD (v :: T)).take j).drop i)) else none
  | _, _ => none) = _
 dsimp only
 rw [if_pos hl, Nat.min_eq_left (Nat.le_add_left _ _), List.take_of_length_le (by rw [h']; exact Nat.le_refl _)]
 rfl
section
variable {FT : List FE} {tp : Bool} {ad : Nat → Nat → Bool} {x : Int} {c n : Nat}
structure Pd (FT : List FE) (ad : Nat → Nat → Bool) (x : Int) (c n : Nat) : Prop where
 at' : ∃ E, FT[c]? = some E ∧ E.exact = true ∧ ∀ l : List Nat, l.length ≤ n → (∀ k ∈ l, k < 5) → E.g [.lst (intsD l), nearD ad, .int x] = some (.int (M ad x l))
 isG : isG sF_law_paired (fn c) = true
theorem paired_nil {ex : Bool} : gOf nm fn FT sF_law_paired ex (bF_law_paired c) pF_law_paired (pdN 3) [.lst (intsD []), nearD ad, .int x] = some (.int (M ad x [])) := by
 refine Q.gOf_ex (ds' := [.lst (intsD []), nearD ad, .int x]) rfl rfl ⟨staOf pF_law_paired [.lst [], nearD ad, .int x], ?_⟩
 rw [M_nil]; rfl
theorem paired_run {ex : Bool} {v : Nat} {T : List Nat} (hx : x.natAbs < 1000) (hv : ∀ k ∈ v :: T, k < 5) (hT : T.length ≤ n) (hn : n ≤ 5) (H : Pd FT ad x c n) : gOf nm fn FT sF_law_paired ex (bF_law_paired c) pF_law_paired (pdN 3) [.lst (intsD (v :: T)), nearD ad, .int x] = some (.int (M ad x (v :: T))) := by
 refine Q.gOf_ex (ds' := [.lst (intsD (v :: T)), nearD ad, .int x]) rfl rfl ?_
 generalize (!ex) = tp
 obtain ⟨⟨E, f1, f2, f3⟩, f4⟩ := H
 generalize hS : staOf pF_law_paired [.lst (intsD (v :: T)), nearD ad, .int x] = S
 have h29 : S 29 = some (.fr (.lst (intsD (v :: T)))) := by rw [← hS]; rfl
 have h19 : S 19 = some (.fr (nearD ad)) := by rw [← hS]; rfl
 have h12 : S 12 = some (.fr (.int x)) := by rw [← hS]; rfl
 clear hS
 have hT' : ∀ k ∈ T, k < 5 := fun k hk => hv k (List.mem_cons_of_mem _ hk)
 have tl := tail_D v T (by rw [List.length_cons]; omega)
 have it0 : itemD (.lst (intsD (v :: T))) (.int 0) = some (.int (v : Nat)) := by
  have := ints_len (v :: T)
  rw [Q.itL, this, show (0 : Int) = ((0 : Nat) : Int) from rfl, Q.idxN _ _ (by simp), Q.bind_some, if_pos (by rw [List.length_cons]; unfold listLine; omega)]; rfl
 have b1 : x.natAbs < 2 ^ 4096 ∧ (M ad x T).natAbs < 2 ^ 4096 := ⟨Nat.lt_trans hx (by decide +kernel), Nat.lt_of_le_of_lt (M_bd hx 5 T (by omega) (by decide)) (by decide +kernel)⟩
 have g1 := f3 T hT hT'
 have n1 := near_at ad (hv v List.mem_cons_self)
 have s1 : exS nm fn FT sF_law_paired tp 198 (Sp1 c) S = some (.next, S.put 30 (.fr (.int (x * M ad x T)))) := by
  have r29 := Q.rho S 29 _ h29
  have r19 := Q.rho S 19 _ h19
  have r12 := Q.rho S 12 _ h12
  simp only [Sp1, Q.asg, Q.bin, Q.var, Q.call, Q.cons, Q.nil, Q.slice, Q.osome, Q.onone, Q.int, r29, r19, r12, Q.d_fr, Q.o_fr, tl, f1, f2, f4, Q.map_some, Q.itV_ff, Q.unt_cons, Q.unt_nil, List.map_cons, List.map_nil, List.length_cons, List.length_nil, g1, Q.mulI, b1, and_self, if_true, Bool.or_true, Bool.and_self, Bool.not_false, Nat.zero_add, Nat.reduceAdd, Nat.reduceLT, decide_true, Q.itV_i, Bool.not_true, Q.sw_bin, k_law_paired]
 obtain ⟨S2, e2, i2, i3⟩ := Q.loop_l (f := exB nm fn FT sF_law_paired tp 196 (Bp2 c)) (tg := .one 11 ⟨250,8,250,9⟩) (g := fun k : Nat => D.int (k : Nat)) (fun d S' => S' 30 = some (.fr (.int (x * M ad x T - sm (fun u => if ad v u then M ad x (wo T u) else 0) d))) ∧ Q.Off [11, 30] S S') T [] (S.put 30 (.fr (.int (x * M ad x T)))) ⟨by rw [Q.put_get]; show _ = some (Slot.fr (.int (_ - 0))); rw [Int.sub_zero], Q.Off.refl.put (i := 30) (by decide)⟩ fun d k rest S1 hd ⟨i1, i2⟩ => by
  have r29 := Q.rho S1 29 _ ((i2 29 (by decide)).trans h29)
  have r19 := Q.rho S1 19 _ ((i2 19 (by decide)).trans h19)
  have r12 := Q.rho S1 12 _ ((i2 12 (by decide)).trans h12)
  have hk : k ∈ T := by rw [← List.nil_append T, hd]; exact List.mem_append_right _ List.mem_cons_self
  have hin : inD (.int (k : Nat)) (.lst (intsD ((List.range 5).filter (ad v)))) = some (ad v k) := by
   rw [Q.inIL, ints_of, Q.map_some, any_of]
   congr 1
   rw [Bool.eq_iff_iff, List.contains_iff_mem, List.mem_filter, List.mem_range]
   exact and_iff_right (hT' k hk)
  refine ⟨_, rfl, ?_⟩
  cases hc : ad v k with
  | false =>
   refine ⟨S1.put 11 (.fr (.int (k : Nat))), ?_, ?_, i2.put (i := 11) (by decide)⟩
   ·simp only [Bp2, Sp2_0, Q.bcons, Q.bnil, Q.sif, Q.tcmp, Q.var, Q.item, Q.int, Q.rho_put, if_true, if_false, Nat.reduceEqDiff, r29, r19, Q.d_fr, Q.o_fr, Q.isIn, it0, Q.map_some, n1, hin, hc, Q.itV_ff]
   ·rw [Q.put_at, if_neg (by decide), i1, sm_append]
    show _ = some (Slot.fr (.int (_ - (_ + ((if ad v k then M ad x (wo T k) else 0) + 0)))))
    rw [hc, if_neg (by simp), Int.add_zero, Int.add_zero]
  | true =>
   have g2 := f3 (wo T k) (Nat.le_trans (wo_le _ _) hT) fun m hm => hT' m (mem_wo.mp hm).1
   refine ⟨(S1.put 11 (.fr (.int (k : Nat)))).put 30 (.fr (.int (x * M ad x T - sm (fun u => if ad v u then M ad x (wo T u) else 0) d - M ad x (wo T k)))), ?_, ?_, (i2.put (i := 11) (by decide)).put (i := 30) (by decide)⟩
   ·simp only [Bp2, Sp2_0, Q.bcons, Q.bnil, Q.sif, Q.tcmp, Q.var, Q.item, Q.int, Q.rho_put, if_true, if_false, Nat.reduceEqDiff, r29, r19, r12, Q.d_fr, Q.o_fr, Q.isIn, it0, Q.map_some, n1, hin, hc, Q.itV_ff, Q.aug, Q.call, Q.cons, Q.nil, Q.put_at, i1, f1, f4]
    rw [Q.lc1 (d := fun m : Nat => D.int (m : Nat)) (g := fun m : Nat => D.int (m : Nat)) (p := fun m => m != k) (tn := false) T ?_ ?_ (by unfold listLine; omega) (fun m _ => ?_) fun m _ => ?_]
    ·have e : (T.filter fun m => m != k).map (fun m : Nat => D.int (m : Nat)) = intsD (wo T k) := rfl
     simp only [e, f2, Q.unt_cons, Q.unt_nil, List.map_cons, List.map_nil, List.length_cons, List.length_nil, g2, Q.map_some, Bool.or_true, Bool.and_self, Bool.not_false, Nat.zero_add, Nat.reduceAdd, Nat.reduceLT, decide_true, Q.mo_sub, Q.at_i, Q.subI, k_law_paired, if_true, and_self, Bool.not_true, Q.itV_ff]
    ·simp only [k_law_paired, Bool.and_self]
    ·simp only [Q.sslice, Q.slice, Q.var, Q.osome, Q.onone, Q.int, Q.rho_put, if_false, Nat.reduceEqDiff, r29, Q.d_fr, Q.o_fr, tl, Q.map_some, Q.itV_ff, Q.sr_l, ints_len]
     rw [if_pos (by unfold listLine; omega)]; rfl
    ·have e : (((m : Nat) : Int) != ((k : Nat) : Int)) = (m != k) := by rw [Bool.eq_iff_iff, bne_iff_ne, bne_iff_ne]; exact not_congr Int.ofNat_inj
     simp only [Q.icons, Q.tcmp, Q.var, Q.rx_i, Q.rx_k, Nat.reduceBEq, k_law_paired, Q.rho_put, if_true, Q.d_fr, Q.o_fr, Q.neI, Q.itV_i, e, Q.inil]
     cases (m != k) <;> rfl
    ·simp only [Q.var, Q.rx_i, Q.itV_i]
   ·rw [Q.put_get, sm_append]
    show _ = some (Slot.fr (.int (_ - (_ + ((if ad v k then M ad x (wo T k) else 0) + 0)))))
    rw [hc, if_pos rfl, Int.add_zero, Int.sub_sub]
 rw [List.nil_append, ← M_cons] at i2
 have s2 : evSrc nm fn FT 196 sF_law_paired (Xp2 c) tp (rhoOf (S.put 30 (.fr (.int (x * M ad x T))))) = some (T.map fun k : Nat => D.int (k : Nat), false, false) := by
  have r29 := Q.rho S 29 _ h29
  simp only [Xp2, Q.sslice, Q.slice, Q.var, Q.osome, Q.onone, Q.int, Q.rho_put, if_false, Nat.reduceEqDiff, r29, Q.d_fr, Q.o_fr, tl, Q.map_some, Q.itV_ff, Q.sr_l, ints_len]
  rw [if_pos (by unfold listLine; omega)]; rfl
 refine ⟨S2, ?_⟩
 have r29 := Q.rho S 29 _ h29
 have ni : isNil (intsD (v :: T)) = false := rfl
 simp only [bF_law_paired, Q.bcons, Sp0, Q.sif, Q.tcmp, Q.var, r29, Q.list, Q.nil, Q.d_fr, Q.o_fr, List.map_nil, List.length_nil, Nat.zero_le, if_true, Q.eqE, ni, Q.bnil, s1, Sp2, Q.sfor, s2, Q.tw1, Q.tv1, k_law_paired, List.all_cons, List.all_nil, Bool.and_true, beq_self_eq_true, e2, Sp3, Q.sret, Q.rho S2 30 _ i2]
theorem paired_any {ex : Bool} {l : List Nat} (hx : x.natAbs < 1000) (hl : ∀ k ∈ l, k < 5) (h : l.length ≤ n + 1) (hn : n ≤ 5) (H : Pd FT ad x c n) : gOf nm fn FT sF_law_paired ex (bF_law_paired c) pF_law_paired (pdN 3) [.lst (intsD l), nearD ad, .int x] = some (.int (M ad x l)) := by
 cases l with
 | nil => exact paired_nil
 | cons v T => exact paired_run hx hl (Nat.le_of_succ_le_succ h) hn H
section
variable (hx : x.natAbs < 1000)
include hx
theorem pd0 : Pd FT21 ad x 20 0 := ⟨⟨E20, rfl, rfl, fun l h _ => by
 rw [List.length_eq_zero_iff.mp (Nat.le_zero.mp h)]
 exact paired_nil (FT := FT20) (c := 20) (ex := true)⟩, by simp only [k_law_paired]⟩
theorem pd1 : Pd FT22 ad x 21 1 := ⟨⟨E21, rfl, rfl, fun _ h h' => paired_any (ex := true) hx h' h (by decide) (pd0 hx)⟩, by simp only [k_law_paired]⟩
theorem pd2 : Pd FT23 ad x 22 2 := ⟨⟨E22, rfl, rfl, fun _ h h' => paired_any (ex := true) hx h' h (by decide) (pd1 hx)⟩, by simp only [k_law_paired]⟩
theorem pd3 : Pd FT24 ad x 23 3 := ⟨⟨E23, rfl, rfl, fun _ h h' => paired_any (ex := true) hx h' h (by decide) (pd2 hx)⟩, by simp only [k_law_paired]⟩
theorem pd4 : Pd FT25 ad x 24 4 := ⟨⟨E24, rfl, rfl, fun _ h h' => paired_any (ex := true) hx h' h (by decide) (pd3 hx)⟩, by simp only [k_law_paired]⟩
theorem g_paired {l : List Nat} (h : l.length ≤ 5) (h' : ∀ k ∈ l, k < 5) : E25.g [.lst (intsD l), nearD ad, .int x] = some (.int (M ad x l)) := paired_any (ex := true) hx h' h (by decide) (pd4 hx)
end
end
end L1
end
section
namespace L1
open Go
theorem sld_at {a b : List Str} (ha : rising a = true) (hb : rising b = true) (la : a.length ≤ 100) (lb : b.length ≤ 100) : E5.g [.lst (a.map .str), .lst (b.map .str)] = some (.tup [.lst ((lessS a b).map .str), .lst ((lessS b a).map .str)]) := by
 rw [show E5.g = sldG from rfl]
 unfold sldG
 simp only [Q.strsOf_map, ha, hb, la, lb, and_self, decide_true, Bool.and_self, if_true]
theorem sort_D {xs : List Str} (h : xs.length < 128) : biD .sorted [.lst (xs.map .str)] = some (.lst ((sortS xs).map .str)) := by
 rw [Q.srtL, Q.strsOf_map, Q.bind_some, if_pos h]
noncomputable def nearN (ns : List Str) (ad : Nat → Nat → Bool) (k : Nat) : List Str := ((List.range 5).filter (ad k)).map (nmS ns)
noncomputable def knownD (ns : List Str) (ad : Nat → Nat → Bool) : D := .dct ((List.range 5).map (nmS ns)) ((List.range 5).map fun k => .lst ((sortS (nearN ns ad k)).map .str))
section
variable {ns : List Str} (N : Ns ns) {ad : Nat → Nat → Bool} {tp : Bool}
include N
theorem range_inj : ∀ a ∈ List.range 5, ∀ b ∈ List.range 5, nmS ns a = nmS ns b → a = b := fun _ ha _ hb e => nmS_inj N (List.mem_range.mp ha) (List.mem_range.mp hb) e
theorem known_at {k : Nat} (h : k < 5) : itemD (knownD ns ad) (.str (nmS ns k)) = some (.lst ((sortS (nearN ns ad k)).map .str)) := by
 unfold knownD
 rw [Q.itD, look_map (range_inj N) (List.mem_range.mpr h)]
omit N in
theorem near_len (k : Nat) : ((List.range 5).filter (ad k)).length ≤ 5 := List.length_filter_le _ _
theorem tree_known {n : Nat} {S : Sta} (h23 : S 23 = some (.fr (namesD ns))) (h19 : S 19 = some (.fr (nearD ad))) : exS nm fn FT19 sF_law_tree tp (n + 30) St0 S = some (.next, S.put 25 (.fr (knownD ns ad))) := by
 have r23 : rhoOf S 23 = some (namesD ns, false) := Q.rho S 23 _ h23
 have r19 : rhoOf S 19 = some (nearD ad, false) := Q.rho S 19 _ h19
 simp only [St0, Q.asg]
 rw [Q.dc0 (key := nmS ns) (d := fun k => .lst ((sortS (nearN ns ad k)).map .str)) (g := fun k : Nat => D.int (k : Nat)) (tn := false) (List.range 5) ?_ ?_ (by decide) (fun k hk => ?_) (fun k hk => ?_) (List.pairwise_map.mpr (List.nodup_range.imp_of_mem fun {a b} ha hb hab e => hab (range_inj N a ha b hb e)))]
 ·simp only [Q.swd, k_law_tree, Bool.and_self, if_true]; rfl
 ·simp only [k_law_tree, Bool.and_self]
 ·simp only [Q.srange, Q.cons, Q.nil, Q.int, Q.rg1, k_law_tree, Q.na5, Bool.true_and, Nat.reduceLT, decide_true, if_true]
  rfl
 ·have h5 := List.mem_range.mp hk
  simp only [Q.item, Q.var, Q.rx_i, Q.rx_k, Nat.reduceBEq, k_law_tree, r23, Q.itV_i, name_at N h5, Q.map_some, Q.itV_s]
 ·have h5 := List.mem_range.mp hk
  simp only [Q.bi, Q.cons, Q.nil]
  rw [Q.lc0 (d := fun m => .str (nmS ns m)) (g := fun m : Nat => D.int (m : Nat)) (tn := false) ((List.range 5).filter (ad k)) ?_ ?_ (Nat.le_trans (near_len k) (by decide)) fun m hm => ?_]
  ·have e : ((List.range 5).filter (ad k)).map (fun m => D.str (nmS ns m)) = (nearN ns ad k).map .str := by unfold nearN; rw [List.map_map]; rfl
   simp only [e, List.map_cons, List.map_nil, k_law_tree, List.length_cons, List.length_nil, Nat.zero_add, Nat.reduceLT, and_self, decide_true, Bool.and_self, if_true, sort_D (xs := nearN ns ad k) (by unfold nearN; rw [List.length_map]; exact Nat.lt_of_le_of_lt (near_len k) (by decide)), Q.map_some]
  ·simp only [k_law_tree, Bool.and_self]
  ·have hl : (intsD ((List.range 5).filter (ad k))).length ≤ listLine := by rw [ints_len]; exact Nat.le_trans (near_len k) (by decide)
   simp only [Q.sitem, Q.item, Q.var, Q.rx_i, Q.rx_k, Nat.reduceBEq, k_law_tree, r19, near_at ad h5, Q.map_some, Q.itV_ff, Q.sr_l, hl, if_true]
   rfl
  ·have h5' := List.mem_range.mp (List.mem_filter.mp hm).1
   simp only [Q.item, Q.var, Q.rx_i, Q.rx_k, Nat.reduceBEq, k_law_tree, r23, Q.itV_i, name_at N h5', Q.map_some, Q.itV_s]
theorem next_names (ad : Nat → Nat → Bool) {v : Nat} {r : List Nat} (w : Vl (v :: r)) : ∃ C : List Nat, C.Perm (ch ad (v :: r)) ∧ lessS (sortS (nearN ns ad v)) (sortS ((v :: r).reverse.map (nmS ns))) = C.map (nmS ns) := by
 obtain ⟨L, p, e⟩ := sorted_as (nmS ns) ((List.range 5).filter (ad v))
 refine ⟨L.filter fun k => !(v :: r).contains k, ?_, ?_⟩
 ·have := p.filter fun k => !(v :: r).contains k
  rw [List.filter_filter] at this
  show List.Perm _ ((re _).filter _)
  unfold re
  rw [List.filter_filter]
  refine this.trans (List.Perm.of_eq ?_)
  congr 1; funext k
  exact Bool.and_comm _ _
 ·unfold nearN
  rw [e, less_names N (fun k hk => List.mem_range.mp (List.mem_filter.mp (p.mem_iff.mp hk)).1) w]
theorem tree_src {n : Nat} {S : Sta} {v : Nat} {r C : List Nat} (w : Vl (v :: r)) (hC : lessS (sortS (nearN ns ad v)) (sortS ((v :: r).reverse.map (nmS ns))) = C.map (nmS ns)) (lC : C.length ≤ 5) (h25 : S 25 = some (.fr (knownD ns ad))) (h0 : S 0 = some (.fr (strD ns (v :: r)))) :
  evSrc nm fn FT19 (n + 30) sF_law_tree Xt3_1 true (rhoOf S) = some (C.map fun k => .str (nmS ns k), false, false) := by
 have r25 : rhoOf S 25 = some (knownD ns ad, false) := Q.rho S 25 _ h25
 have r0 : rhoOf S 0 = some (.str (key ns (v :: r)), false) := Q.rho S 0 _ h0
 have v5 := w.lt v List.mem_cons_self
 have gb := g_basename (key ns (v :: r)) (Nat.le_trans (key_len N w) (by decide))
 rw [key_base N v5] at gb
 have lk := key_len N w
 have sp : meD .split (.str (key ns (v :: r))) [.str (Str.ofString "/")] = some (.lst (.str (Str.ofString "") :: ((v :: r).reverse.map (nmS ns)).map .str)) := by
  rw [Q.msp, if_pos ⟨by unfold strLine; omega, by decide⟩]
  show some (D.lst ((Txt.split (key ns (v :: r)) slash).map .str)) = _
  rw [key_split N w]; rfl
 have ln : ((v :: r).reverse.map (nmS ns)).length ≤ 5 := by
  have := w.len
  rw [List.length_map, List.length_reverse]; omega
 have sl : sliceD (.lst (.str (Str.ofString "") :: ((v :: r).reverse.map (nmS ns)).map .str)) (some (.int 1)) none = some (.lst (((v :: r).reverse.map (nmS ns)).map .str)) := by
  generalize (v :: r).reverse.map (nmS ns) = xs at ln
  rw [Q.slL, List.length_cons, List.length_map]
  show (match some (min 1 (xs.length + 1)), some (xs.length + 1) with
   | some i, some j => if xs.length + 1 ≤ listLine then some (D.lst (((D.str (Str.ofString "") :: xs.map .str).take j).drop i)) else none
   | _, _ => none) = _
  dsimp only
  rw [if_pos (by unfold listLine; omega), Nat.min_eq_left (Nat.le_add_left _ _), List.take_of_length_le (by rw [List.length_cons, List.length_map]; exact Nat.le_refl _)]
  rfl
 have sd := sort_D (xs := (v :: r).reverse.map (nmS ns)) (by omega)
 have nd1 : (nearN ns ad v).Nodup := List.pairwise_map.mpr ((List.nodup_range.sublist List.filter_sublist).imp_of_mem fun {a b} ha hb hab e => hab (range_inj N a (List.mem_filter.mp ha).1 b (List.mem_filter.mp hb).1 e))
 have nd2 : ((v :: r).reverse.map (nmS ns)).Nodup := List.pairwise_map.mpr (((List.reverse_perm _).nodup_iff.mpr w.nd).imp_of_mem fun {a b} ha hb hab e => hab (nmS_inj N (w.lt a (List.mem_reverse.mp ha)) (w.lt b (List.mem_reverse.mp hb)) e))
 have g5 := sld_at (rising_sort nd1) (rising_sort nd2) (by rw [(sortS_perm _).length_eq]; unfold nearN; rw [List.length_map]; exact Nat.le_trans (near_len v) (by decide)) (by rw [(sortS_perm _).length_eq]; omega)
 have e0 : ∀ a b : D, itemD (.tup [a, b]) (.int 0) = some a := fun _ _ => rfl
 have e1 : (C.map (nmS ns)).map D.str = C.map fun k => .str (nmS ns k) := by rw [List.map_map]; rfl
 have l1 : (C.map fun k => D.str (nmS ns k)).length ≤ listLine := by rw [List.length_map]; exact Nat.le_trans lC (by decide)
 rw [hC, e1] at g5
 generalize lessS (sortS ((v :: r).reverse.map (nmS ns))) (sortS (nearN ns ad v)) = Z at g5
 generalize (sortS ((v :: r).reverse.map (nmS ns))).map D.str = A2 at g5 sd
 have ka := known_at N (ad := ad) v5
 generalize (sortS (nearN ns ad v)).map D.str = A1 at g5 ka
 generalize ((v :: r).reverse.map (nmS ns)).map D.str = A3 at sd sl sp
 simp only [Xt3_1, Q.sitem, Q.item, Q.call, Q.cons, Q.nil, Q.var, Q.bi, Q.slice, Q.meth, Q.str, Q.osome, Q.onone, Q.int, r25, r0, ft19, k_law_tree, Q.unt_cons, Q.unt_nil, List.map_cons, List.map_nil, List.length_cons, List.length_nil, Nat.zero_add, Nat.reduceAdd, Nat.reduceLT, and_self, decide_true, Bool.true_or, Bool.and_self, if_true, gb, Q.map_some, ka, Bool.not_false, Bool.not_true, Bool.or_false, sp, sl, sd, g5, e0, Q.itV_ff, Q.sr_l, l1, beq_self_eq_true, Q.ba_var]
theorem tree_turn {n : Nat} {S : Sta} {p : List Nat} {A Z : List (List Nat)} (w : Vl p) (h25 : S 25 = some (.fr (knownD ns ad))) (h26 : S 26 = some (.li ((A ++ p :: Z).map (strD ns)))) (h27 : S 27 = some (.fr (.int (A.length : Nat)))) (hl : (A ++ p :: Z).length ≤ 100) :
  ∃ C : List Nat, C.Perm (ch ad p) ∧ ∃ S', exB nm fn FT19 sF_law_tree true (n + 40) Bt3 S = some (.next, S') ∧ S' 25 = some (.fr (knownD ns ad)) ∧ S' 26 = some (.li ((A ++ p :: Z ++ C.map (· :: p)).map (strD ns))) ∧ S' 27 = some (.fr (.int ((A.length + 1 : Nat) : Int))) := by
 obtain ⟨v, r, rfl⟩ : ∃ v r, p = v :: r := by
  cases p with
  | nil => exact absurd rfl w.ne
  | cons a r => exact ⟨a, r, rfl⟩
 obtain ⟨C, pc, hC⟩ := next_names N ad w
 refine ⟨C, pc, ?_⟩
 generalize hp : v :: r = p at *
 have lC : C.length ≤ 5 := by
  rw [pc.length_eq]
  exact Nat.le_trans (List.length_filter_le _ _) (List.length_filter_le _ _)
 have cL : ∀ k ∈ C, k < 5 := fun k hk => (mem_re.mp (ch_re (pc.mem_iff.mp hk))).1
 have it : itemD (.lst ((A ++ p :: Z).map (strD ns))) (.int (A.length : Nat)) = some (strD ns p) := by
  rw [Q.itL, List.length_map, Q.idxN _ _ (by rw [List.length_append, List.length_cons]; omega), Q.bind_some, if_pos (by unfold listLine; omega), List.getElem?_map, List.getElem?_append_right (Nat.le_refl _), Nat.sub_self]
  rfl
 have s0 : exS nm fn FT19 sF_law_tree true (n + 39) St3_0 S = some (.next, S.put 0 (.fr (strD ns p))) := by
  have r26 : rhoOf S 26 = _ := Q.rho S 26 _ h26
  have r27 : rhoOf S 27 = _ := Q.rho S 27 _ h27
  simp only [St3_0, Q.asg, Q.item, Q.var, r26, r27, Q.d_li, Q.o_li, Q.d_fr, it, Q.map_some, strD, Q.itV_s, k_law_tree, Q.sw_item, Bool.and_self, if_true]
 have src := tree_src N (n := n + 7) (S := S.put 0 (.fr (strD ns p))) (v := v) (r := r) (C := C) (by rw [hp]; exact w) (by rw [hp]; exact hC) lC (by rw [Q.put_at, if_neg (by decide)]; exact h25) (by rw [Q.put_get, hp])
 obtain ⟨S2, e2, i2, i3⟩ := Q.loop_l (f := exB nm fn FT19 sF_law_tree true (n + 37) Bt3_1) (tg := .one 28 ⟨242,12,242,15⟩) (g := fun k => D.str (nmS ns k)) (fun d S' => S' 26 = some (.li ((A ++ p :: Z ++ d.map (· :: p)).map (strD ns))) ∧ Q.Off [26, 28] (S.put 0 (.fr (strD ns p))) S') C [] (S.put 0 (.fr (strD ns p))) ⟨by rw [Q.put_at, if_neg (by decide), List.map_nil, List.append_nil]; exact h26, Q.Off.refl⟩ fun d k rest S1 hd ⟨i1, i2⟩ => by
  have k5 := cL k (by rw [← List.nil_append C, hd]; exact List.mem_append_right _ List.mem_cons_self)
  have dl : d.length ≤ 5 := by
   have e := congrArg List.length hd
   rw [List.nil_append, List.length_append] at e
   omega
  have r0 : rhoOf S1 0 = some (.str (key ns p), false) := Q.rho S1 0 _ ((i2 0 (by decide)).trans Q.put_get)
  have gj := g_join (key ns p) (nmS ns k) (Nat.le_trans (key_len N w) (by decide)) (Nat.le_trans (nmS_nm N k5).le (by decide))
  rw [key_join N w k5] at gj
  have l1 : ((A ++ p :: Z ++ d.map (· :: p)).map (strD ns)).length ≤ 100000 := by
   rw [List.length_map, List.length_append, List.length_map]; omega
  refine ⟨_, rfl, (S1.put 28 (.fr (.str (nmS ns k)))).put 26 (.li ((A ++ p :: Z ++ d.map (· :: p)).map (strD ns) ++ [strD ns (k :: p)])), ?_, ?_, (i2.put (i := 28) (by decide)).put (i := 26) (by decide)⟩
  ·generalize (A ++ p :: Z ++ d.map (· :: p)).map (strD ns) = L at i1 l1
   simp only [Bt3_1, St3_1_0, Q.bcons, Q.bnil, Q.app, Q.put_at, if_false, if_true, Nat.reduceEqDiff, i1, Q.call, Q.cons, Q.nil, Q.var, Q.rho_put, r0, Q.d_fr, Q.o_fr, ft19, k_law_tree, Q.unt_cons, Q.unt_nil, List.map_cons, List.map_nil, List.length_cons, List.length_nil, Nat.zero_add, Nat.reduceAdd, Nat.reduceLT, and_self, decide_true, Bool.true_or, Bool.and_self, gj, Q.map_some, Q.itV_s, Q.at_s, l1, listLine, beq_self_eq_true, Bool.not_false, Bool.not_true, strD]
  ·have e : A ++ p :: Z ++ (d ++ [k]).map (· :: p) = (A ++ p :: Z ++ d.map (· :: p)) ++ [k :: p] := by rw [List.map_append, ← List.append_assoc]; rfl
   rw [Q.put_get, e]; exact congrArg (fun l => some (Slot.li l)) (List.map_append (f := strD ns) (l₁ := A ++ p :: Z ++ d.map (· :: p)) (l₂ := [k :: p])).symm
 rw [List.nil_append] at i2
 have q27 : S2 27 = some (.fr (.int (A.length : Nat))) := by rw [i3 27 (by decide), Q.put_at, if_neg (by decide)]; exact h27
 refine ⟨S2.put 27 (.fr (.int ((A.length + 1 : Nat) : Int))), ?_, by rw [Q.put_at, if_neg (by decide), i3 25 (by decide), Q.put_at, if_neg (by decide)]; exact h25, by rw [Q.put_at, if_neg (by decide)]; exact i2, Q.put_get⟩
 simp only [Bt3, Q.bcons, s0, St3_1, Q.sfor, src, Q.tw1, Q.tv1, k_law_tree, List.all_cons, List.all_nil, beq_self_eq_true, if_true, e2, St3_2, Q.aug, q27, Q.int, Q.mo_add, Q.at_i, Bool.and_self, Q.addI, Q.bnil]
 rfl
omit N in
theorem tree_test {n : Nat} {S : Sta} {A Z : List (List Nat)} (h26 : S 26 = some (.li ((A ++ Z).map (strD ns)))) (h27 : S 27 = some (.fr (.int (A.length : Nat)))) (hl : (A ++ Z).length ≤ 65) : evT nm fn FT19 (n + 20) sF_law_tree Xt3 true (rhoOf S) = some (decide (0 < Z.length)) := by
 have r26 : rhoOf S 26 = _ := Q.rho S 26 _ h26
 have r27 : rhoOf S 27 = _ := Q.rho S 27 _ h27
 have l1 : ((A ++ Z).map (strD ns)).length = A.length + Z.length := by rw [List.length_map, List.length_append]
 rw [List.length_append] at hl
 have l2 : A.length + Z.length ≤ 100000 := Nat.le_trans hl (by decide)
 have e : ¬ (70 : Int) < ((A.length + Z.length : Nat) : Int) := by omega
 simp only [Xt3, Q.tcmp, Q.var, r27, Q.d_fr, Q.bi, Q.cons, Q.nil, r26, Q.d_li, Q.o_li, Q.int, k_law_tree, List.map_cons, List.map_nil, List.length_cons, List.length_nil, Nat.zero_add, Nat.reduceAdd, Nat.reduceLT, and_self, decide_true, Bool.and_self, if_true, Q.lenL, l1, listLine, l2, Q.map_some, Q.minI, e, if_false, Q.ltI]
 congr 1
 exact decide_eq_decide.mpr (by omega)
theorem sub_pos : ∀ Z : List (List Nat), Z.length ≤ (Z.flatMap (sub ad)).length
 | [] => Nat.zero_le _
 | p :: Z => by
  rw [List.flatMap_cons, List.length_append, List.length_cons, Nat.add_comm]
  exact Nat.add_le_add (List.length_pos_of_mem (dfs_self (ad := ad) (5 - p.length) p)) (sub_pos Z)
theorem tree_while : ∀ (m n : Nat) (A Z : List (List Nat)) (S : Sta), (Z.flatMap (sub ad)).length ≤ m → (∀ q ∈ Z, Vl q) → (A ++ Z.flatMap (sub ad)).Perm (sub ad [0]) → S 25 = some (.fr (knownD ns ad)) → S 26 = some (.li ((A ++ Z).map (strD ns))) → S 27 = some (.fr (.int (A.length : Nat))) →
  ∃ B S', exW nm fn FT19 sF_law_tree true (n + 50 + m) Xt3 Bt3 S = some (.next, S') ∧ S' 26 = some (.li ((A ++ Z ++ B).map (strD ns))) ∧ (A ++ Z ++ B).Perm (sub ad [0])
 | m, n, A, [], S, _, _, hp, h25, h26, h27 => by
  have hl := Nat.le_trans (Nat.le_of_eq hp.length_eq) (sub_len (ad := ad))
  have ht := tree_test (n := n + 29 + m) h26 h27 hl
  refine ⟨[], S, ?_, by rw [List.append_nil]; exact h26, by rw [List.append_nil]; exact hp⟩
  rw [show n + 50 + m = (n + 29 + m + 20) + 1 by omega, Q.wstep, ht]; rfl
 | 0, n, A, p :: Z, S, hm, _, _, _, _, _ => absurd (Nat.le_trans (sub_pos N (ad := ad) (p :: Z)) hm) (Nat.not_succ_le_zero _)
 | m + 1, n, A, p :: Z, S, hm, hZ, hp, h25, h26, h27 => by
  have w := hZ p List.mem_cons_self
  have hl : (A ++ p :: Z).length ≤ 65 := by
   have h1 := Nat.le_trans (Nat.le_of_eq hp.length_eq) (sub_len (ad := ad))
   have h2 := sub_pos N (ad := ad) (p :: Z)
   rw [List.length_append] at h1 ⊢
   omega
  have ht := tree_test (n := n + 30 + m) h26 h27 hl
  obtain ⟨C, pc, S1, e1, q25, q26, q27⟩ := tree_turn N (n := n + 10 + m) w h25 h26 h27 (Nat.le_trans hl (by decide))
  have eC : ((C.map (· :: p)).flatMap (sub ad)).Perm ((ch ad p).flatMap fun k => sub ad (k :: p)) := by
   rw [List.flatMap_map]; exact pc.flatMap_right _
  have eS : ((p :: Z).flatMap (sub ad)) = p :: ((ch ad p).flatMap fun k => sub ad (k :: p)) ++ Z.flatMap (sub ad) := by
   rw [List.flatMap_cons, sub_eq w]
  rw [eS] at hm hp
  have eA : A ++ p :: Z ++ C.map (· :: p) = (A ++ [p]) ++ (Z ++ C.map (· :: p)) := by simp only [List.append_assoc, List.cons_append, List.nil_append]
  obtain ⟨B, S', e2, q, pB⟩ := tree_while m n (A ++ [p]) (Z ++ C.map (· :: p)) S1 (by
    rw [List.flatMap_append, List.length_append, eC.length_eq]
    rw [List.length_append, List.length_cons] at hm
    omega) (fun q hq => by
    rcases List.mem_append.mp hq with h | h
    ·exact hZ q (List.mem_cons_of_mem _ h)
    ·obtain ⟨k, hk, rfl⟩ := List.mem_map.mp h
     exact w.cons (ch_re (pc.mem_iff.mp hk))) (by
    refine List.Perm.trans ?_ hp
    rw [List.flatMap_append, List.append_assoc]
    exact List.Perm.append_left A (((List.perm_append_comm.trans (List.Perm.append_right _ eC)).cons p))) q25 (by rw [q26, eA]) (by rw [q27, List.length_append]; rfl)
  refine ⟨C.map (· :: p) ++ B, S', ?_, by rw [q, ← eA, List.append_assoc], by rw [← List.append_assoc, eA]; exact pB⟩
  rw [decide_eq_true (show 0 < (p :: Z).length from Nat.succ_pos _)] at ht
  rw [show n + 50 + (m + 1) = (n + 30 + m + 20) + 1 by omega, Q.wstep, ht]
  dsimp only
  rw [show n + 30 + m + 20 = n + 10 + m + 40 by omega, e1]
  dsimp only
  rw [show n + 10 + m + 40 = n + 50 + m by omega]
  exact e2
theorem g_tree : ∃ B : List (List Nat), ([0] :: B).Perm (sub ad [0]) ∧ E19.g [namesD ns, nearD ad] = some (waysD ns ([0] :: B)) := by
 generalize hS : staOf pF_law_tree [namesD ns, nearD ad] = S
 have h23 : S 23 = some (.fr (namesD ns)) := by rw [← hS]; rfl
 have h19 : S 19 = some (.fr (nearD ad)) := by rw [← hS]; rfl
 have s0 := tree_known N (tp := true) (n := 169) h23 h19
 have s1 : exS nm fn FT19 sF_law_tree true 198 St1 (S.put 25 (.fr (knownD ns ad))) = some (.next, (S.put 25 (.fr (knownD ns ad))).put 26 (.li [strD ns [0]])) := by
  have r23 : rhoT (S.put 25 (.fr (knownD ns ad))) 23 = some (itV (namesD ns) true) := by rw [Q.rhoT_at, Q.put_at, if_neg (by decide), h23]; rfl
  have n0 : itemD (namesD ns) (.int 0) = some (.str (nmS ns 0)) := name_at N (k := 0) (by decide)
  have gj : E2.g [.str (Str.ofString "/"), .str (nmS ns 0)] = some (strD ns [0]) := by
   have := g_join slash (nmS ns 0) (by decide) (Nat.le_trans (nmS_nm N (by decide)).le (by decide))
   rw [join_one (nmS_nm N (by decide))] at this
   exact this
  simp only [St1, Q.own, Q.list, Q.cons, Q.nil, Q.call, Q.str, Q.item, Q.var, Q.int, r23]
  rw [show itV (namesD ns) true = (namesD ns, true) from rfl]
  simp only [n0, Q.map_some, Q.itV_s, ft19, k_law_tree, Q.unt_cons, Q.unt_nil, List.map_cons, List.map_nil, List.length_cons, List.length_nil, Nat.zero_add, Nat.reduceAdd, Nat.reduceLT, Nat.reduceLeDiff, and_self, decide_true, Bool.true_or, Bool.and_self, if_true, gj, strD, Q.sw_list, Q.so_li, Q.at_s, List.all_cons, List.all_nil, Bool.not_false, Bool.not_true]
 obtain ⟨B, S2, e2, q26, pB⟩ := tree_while N (ad := ad) 65 80 [] [[0]] (((S.put 25 (.fr (knownD ns ad))).put 26 (.li [strD ns [0]])).put 27 (.fr (.int 0))) (by rw [List.flatMap_cons, List.flatMap_nil, List.append_nil]; exact sub_len) (fun q hq => by rw [List.mem_singleton.mp hq]; exact vl0) (by rw [List.flatMap_cons, List.flatMap_nil, List.append_nil]; exact .refl _) rfl rfl rfl
 refine ⟨B, pB, ?_⟩
 rw [e19_g]
 refine Q.gOf_ex (ds' := [namesD ns, nearD ad]) rfl rfl ⟨S2.put 26 (.fr (waysD ns ([0] :: B))), ?_⟩
 rw [hS]
 show exB nm fn FT19 sF_law_tree true 200 bF_law_tree S = _
 have e2 : exW nm fn FT19 sF_law_tree true 195 Xt3 Bt3 (((S.put 25 (.fr (knownD ns ad))).put 26 (.li [strD ns [0]])).put 27 (.fr (.int 0))) = some (.next, S2) := e2
 simp only [bF_law_tree, Q.bcons, s0, s1, St2, Q.asg, Q.int, k_law_tree, Q.sw_int, Bool.and_self, if_true, St3, Q.swhl, e2, St4, Q.sfrz, q26, St5, Q.sret, Q.var, Q.rho_put, Q.d_fr, Q.d_li, Q.o_fr]
 rfl
end
end L1
end
section
namespace Go
section
variable (ad : Nat → Nat → Bool) (x : Int)
noncomputable def WAp (p : List Nat) : Int × Int := WA ad x (5 - p.length) (re p) (p.headD 0)
noncomputable def st (d : List (List Nat)) (p : List Nat) : Int × Int := ((d.filter fun c => c.tail == p).map (WAp ad x)).foldl step (1, 0)
variable {ad x}
theorem WAp_eq {p : List Nat} (w : Vl p) : WAp ad x p = (x * (((ch ad p).map fun k => WAp ad x (k :: p)).foldl step (1, 0)).1 - (((ch ad p).map fun k => WAp ad x (k :: p)).foldl step (1, 0)).2, (((ch ad p).map fun k => WAp ad x (k :: p)).foldl step (1, 0)).1) := by
 have h0 : 0 < p.length := List.length_pos_iff.mpr w.ne
 have hl := w.len
 cases e : 5 - p.length with
 | zero =>
  have h : (ch ad p).length ≤ 0 := ch_len w (by omega)
  rw [List.length_eq_zero_iff.mp (Nat.le_zero.mp h)]
  show WA ad x (5 - p.length) _ _ = (x * 1 - 0, 1)
  rw [e, Int.mul_one, Int.sub_zero]; rfl
 | succ n =>
  have h : ∀ k, WAp ad x (k :: p) = WA ad x n (wo (re p) k) k := fun k => by
   unfold WAp
   rw [re_cons, List.length_cons, show 5 - (p.length + 1) = n by omega]; rfl
  simp only [h]
  unfold WAp
  rw [e]; rfl
theorem st_snoc (d : List (List Nat)) (p q : List Nat) : st ad x (d ++ [p]) q = if p.tail = q then step (st ad x d q) (WAp ad x p) else st ad x d q := by
 unfold st
 rw [List.filter_append, List.filter_cons, List.filter_nil]
 by_cases h : p.tail = q
 ·rw [if_pos h, if_pos (beq_iff_eq.mpr h), List.map_append, List.foldl_append]; rfl
 ·rw [if_neg h, if_neg fun e => h (beq_iff_eq.mp e), List.append_nil]
structure Od (ad : Nat → Nat → Bool) (D : List (List Nat)) : Prop where
 pm : D.Perm (sub ad [0])
 no : ∀ d p rest, D = d ++ p :: rest → ∀ k, k :: p ∉ rest
variable {D : List (List Nat)} (O : Od ad D)
include O
theorem Od.vl {p : List Nat} (h : p ∈ D) : Vl p := dfs_vl _ vl0 (O.pm.mem_iff.mp h)
theorem Od.nd : D.Nodup := O.pm.nodup_iff.mpr (dfs_nodup _ _)
theorem Od.down {p : List Nat} {k : Nat} (h : p ∈ D) (hk : k ∈ ch ad p) : k :: p ∈ D := O.pm.mem_iff.mpr (dfs_down 4 vl0 rfl (O.pm.mem_iff.mp h) hk)
theorem Od.up {p : List Nat} {k : Nat} (h : k :: p ∈ D) : k :: p = [0] ∨ p ∈ D ∧ k ∈ ch ad p := (dfs_up 4 (O.pm.mem_iff.mp h)).imp id fun q => ⟨O.pm.mem_iff.mpr q.1, q.2⟩
theorem Od.zero : [0] ∈ D := O.pm.mem_iff.mpr (dfs_self 4 _)
theorem Od.len : D.length ≤ 65 := Nat.le_trans (Nat.le_of_eq O.pm.length_eq) sub_len
theorem st_full {d rest : List (List Nat)} {p : List Nat} (h : d ++ rest = D) (hp : p ∈ D) (hr : ∀ k, k :: p ∉ rest) : WAp ad x p = (x * (st ad x d p).1 - (st ad x d p).2, (st ad x d p).1) := by
 have w := O.vl hp
 have nd : d.Nodup := (List.nodup_append.mp (h ▸ O.nd)).1
 have pm : (d.filter fun c => c.tail == p).Perm ((ch ad p).map (· :: p)) := (List.perm_ext_iff_of_nodup (nd.sublist List.filter_sublist) (List.pairwise_map.mpr ((ch_nodup p).imp fun hab e => hab (List.cons.inj e).1))).mpr fun c => by
  rw [List.mem_filter, List.mem_map, beq_iff_eq]
  constructor
  ·rintro ⟨hc, e⟩
   have hD : c ∈ D := h ▸ List.mem_append_left _ hc
   cases c with
   | nil => exact absurd rfl (O.vl hD).ne
   | cons k r =>
    have e : r = p := e
    subst e
    rcases O.up hD with q | q
    ·exact absurd (List.cons.inj q).2 w.ne
    ·exact ⟨k, q.2, rfl⟩
  ·rintro ⟨k, hk, rfl⟩
   exact ⟨(List.mem_append.mp (h ▸ O.down hp hk)).resolve_right (hr k), rfl⟩
 rw [WAp_eq w]
 unfold st
 rw [fold_perm (pm.map _), List.map_map]; rfl
omit O in
theorem bd_lt : (∀ m, m < 4 → (2 * bd m) ^ (m + 1) < 2 ^ 4096) ∧ ∀ m, m < 5 → bd m < 2 ^ 4096 := by decide +kernel
theorem WAp_bd (hx : x.natAbs < 1000) {p : List Nat} (hp : p ∈ D) : (WAp ad x p).1.natAbs < 2 ^ 4096 ∧ (WAp ad x p).2.natAbs < 2 ^ 4096 := by
 have w := O.vl hp
 have h0 : 0 < p.length := List.length_pos_iff.mpr w.ne
 have hl := w.len
 have := WA_bd (ad := ad) hx (5 - p.length) (re p) (p.headD 0) (re_nodup p) (by omega)
 have h := bd_lt.2 (5 - p.length) (by omega)
 exact ⟨Nat.lt_of_le_of_lt this.1 h, Nat.lt_of_le_of_lt this.2 h⟩
theorem st_bd (hx : x.natAbs < 1000) {d rest : List (List Nat)} (h : d ++ rest = D) {q : List Nat} {k : Nat} (hk : k :: q ∈ rest) (hq : q ∈ D) : (st ad x d q).1.natAbs < 2 ^ 4096 ∧ (st ad x d q).2.natAbs < 2 ^ 4096 := by
 have w := O.vl hq
 have hl := w.len
 have h0 : 0 < q.length := List.length_pos_iff.mpr w.ne
 have wk := (O.vl (h ▸ List.mem_append_right d hk)).len
 rw [List.length_cons] at wk
 have nd : d.Nodup := (List.nodup_append.mp (h ▸ O.nd)).1
 have sb : ∀ c ∈ d.filter fun c => c.tail == q, c ∈ (ch ad q).map (· :: q) := fun c hc => by
  obtain ⟨hc, e⟩ := List.mem_filter.mp hc
  have hD : c ∈ D := h ▸ List.mem_append_left _ hc
  cases c with
  | nil => exact absurd rfl (O.vl hD).ne
  | cons m r =>
   have e : r = q := beq_iff_eq.mp e
   subst e
   rcases O.up hD with z | z
   ·exact absurd (List.cons.inj z).2 w.ne
   ·exact List.mem_map.mpr ⟨m, z.2, rfl⟩
 have ln : (d.filter fun c => c.tail == q).length ≤ 4 - q.length + 1 := by
  have h1 : (d.filter fun c => c.tail == q).length ≤ ((ch ad q).map (· :: q)).length := (less (List.pairwise_map.mpr ((ch_nodup q).imp fun hab e => hab (List.cons.inj e).1)) (nd.sublist List.filter_sublist) sb).length_eq ▸ (by rw [List.length_append]; exact Nat.le_add_right _ _)
  have h2 := ch_len (ad := ad) (n := 5 - q.length) w (by omega)
  rw [List.length_map] at h1
  omega
 have := fold_le (n := 4 - q.length) (k := 4 - q.length + 1) (l := (d.filter fun c => c.tail == q).map (WAp ad x)) (fun e he => by
  obtain ⟨c, hc, rfl⟩ := List.mem_map.mp he
  obtain ⟨m, hm, rfl⟩ := List.mem_map.mp (sb c hc)
  have wm := (w.cons (ch_re hm)).len
  rw [List.length_cons] at wm
  have := WA_bd (ad := ad) hx (4 - q.length) (re (m :: q)) m (re_nodup _) (by omega)
  unfold WAp
  rw [List.length_cons, show 5 - (q.length + 1) = 4 - q.length by omega]
  exact this) (by rw [List.length_map]; exact ln)
 have hb := bd_lt.1 (4 - q.length) (by omega)
 exact ⟨Nat.lt_of_le_of_lt this.1 hb, Nat.lt_of_le_of_lt this.2 hb⟩
omit O in
theorem Od.of {ns : List Str} {B : List (List Nat)} (pm : B.Perm (sub ad [0])) : ∃ D, Od ad D ∧ (sortS (B.map (key ns))).reverse = D.map (key ns) := by
 obtain ⟨L, p, e⟩ := sorted_as (key ns) B
 refine ⟨L.reverse, ⟨(List.reverse_perm L).trans (p.trans pm), fun d q rest h k hk => ?_⟩, by rw [e, List.map_reverse]⟩
 have s := sortS_sorted (B.map (key ns))
 rw [e] at s
 have s : (L.reverse.map (key ns)).Pairwise fun a b => leS b a := by rw [List.map_reverse]; exact List.pairwise_reverse.mpr s
 rw [h, List.map_append, List.pairwise_append, List.map_cons] at s
 have := (List.pairwise_cons.mp s.2.1).1 _ (List.mem_map.mpr ⟨_, hk, rfl⟩)
 unfold leS at this
 rw [key_lt] at this
 cases this
end
end Go
end
section
namespace L1
open Go
noncomputable def dicD (ns : List Str) (B : List (List Nat)) (f : List Nat → Int) : Slot := .di (B.map (key ns)) (B.map fun p => .int (f p))
section
variable {ns : List Str} (N : Ns ns) {ad : Nat → Nat → Bool} {x : Int} {tp : Bool}
omit N in
theorem ints_atom (B : List (List Nat)) (f : List Nat → Int) : (B.map fun p => D.int (f p)).all D.atom = true := by
 rw [List.all_eq_true]; intro d hd; obtain ⟨z, _, rfl⟩ := List.mem_map.mp hd; rfl
omit N in
theorem paths_src {n : Nat} {S : Sta} {B : List (List Nat)} (lB : B.length ≤ 1000) (h26 : S 26 = some (.fr (waysD ns B))) (p : Pos) : evSrc nm fn FT26 (n + 5) sF_law_folders (.var 26 p) tp (rhoT S) = some (B.map (strD ns), true, false) := by
 have r26 : rhoT S 26 = some (.lst (B.map (strD ns)), true) := by rw [Q.rhoT_at, h26]; rfl
 simp only [Q.svar, Q.var, r26, Q.sr_l]
 rw [if_pos (by rw [List.length_map]; exact Nat.le_trans lB (by decide))]
include N
theorem folders_one {n : Nat} {S : Sta} {B : List (List Nat)} (hB : ∀ q ∈ B, Vl q) (nB : B.Nodup) (lB : B.length ≤ 1000) (h26 : S 26 = some (.fr (waysD ns B))) : exS nm fn FT26 sF_law_folders tp (n + 20) Sf0 S = some (.next, S.put 31 (dicD ns B fun _ => 1)) := by
 simp only [Sf0, Q.own]
 rw [Q.dc0 (key := key ns) (d := fun _ => .int 1) (g := strD ns) (tn := true) B (by simp only [k_law_folders, Bool.and_self]) (paths_src lB h26 _) (Nat.le_trans lB (by decide)) (fun p _ => by simp only [Q.var, Q.rx_i, strD, Q.itV_s]) (fun p _ => by simp only [Q.int]) (keys_nodup N hB nB)]
 simp only [k_law_folders, Q.swd, Bool.and_self, if_true, Q.so_di, ints_atom B fun _ => 1, Q.map_some]
 rfl
theorem folders_two {n : Nat} {S : Sta} {B : List (List Nat)} (hB : ∀ q ∈ B, Vl q) (nB : B.Nodup) (lB : B.length ≤ 1000) (h26 : S 26 = some (.fr (waysD ns B))) : exS nm fn FT26 sF_law_folders tp (n + 20) Sf1 S = some (.next, S.put 32 (dicD ns B fun _ => 0)) := by
 simp only [Sf1, Q.own]
 rw [Q.dc0 (key := key ns) (d := fun _ => .int 0) (g := strD ns) (tn := true) B (by simp only [k_law_folders, Bool.and_self]) (paths_src lB h26 _) (Nat.le_trans lB (by decide)) (fun p _ => by simp only [Q.var, Q.rx_i, strD, Q.itV_s]) (fun p _ => by simp only [Q.int]) (keys_nodup N hB nB)]
 simp only [k_law_folders, Q.swd, Bool.and_self, if_true, Q.so_di, ints_atom B fun _ => 0, Q.map_some]
 rfl
omit N in
theorem dic_len {B : List (List Nat)} (h : B.length ≤ 1000) : (B.map (key ns)).length ≤ 100000 := by rw [List.length_map]; omega
theorem dic_at {B : List (List Nat)} (hB : ∀ q ∈ B, Vl q) (f : List Nat → Int) {p : List Nat} (h : p ∈ B) : itemD (dicD ns B f).d (.str (key ns p)) = some (.int (f p)) := look_map (keys_inj N hB) h
theorem dic_set {B : List (List Nat)} (hB : ∀ q ∈ B, Vl q) (nB : B.Nodup) (lB : B.length ≤ 1000) (f g : List Nat → Int) {p : List Nat} (h : p ∈ B) (v : Int) (e : ∀ q, g q = if q = p then v else f q) : setSlot (dicD ns B f) (.str (key ns p)) (.int v) = some (dicD ns B g) := by
 unfold dicD
 rw [Q.ss_di, if_pos ⟨dic_len lB, rfl⟩, store_map (keys_inj N hB) nB _ h]
 have : (B.map fun q => if q = p then D.int v else .int (f q)) = B.map fun q => D.int (g q) := List.map_congr_left fun q _ => by rw [e]; by_cases z : q = p <;> simp [z]
 rw [this]
omit N in
theorem dic_new {B : List (List Nat)} (lB : B.length ≤ 1000) (f : List Nat → Int) {p : List Nat} (h : key ns p ∉ B.map (key ns)) : setSlot (dicD ns B f) (.str (key ns p)) (.int (f p)) = some (dicD ns (B ++ [p]) f) := by
 unfold dicD
 rw [Q.ss_di, if_pos ⟨dic_len lB, rfl⟩, store_new _ _ _ _ h (by rw [List.length_map, List.length_map]), List.map_append, List.map_append]; rfl
omit N in
theorem dic_congr {B : List (List Nat)} {f g : List Nat → Int} (h : ∀ q ∈ B, f q = g q) : dicD ns B f = dicD ns B g := by
 unfold dicD
 rw [List.map_congr_left fun q hq => congrArg D.int (h q hq)]
theorem folders_head {n : Nat} {S : Sta} {B D d rest : List (List Nat)} {p : List Nat} (hx : x.natAbs < 1000) (O : Od ad D) (pB : B.Perm D) (h : d ++ p :: rest = D) (h12 : S 12 = some (.fr (.int x)))
  (h31 : S 31 = some (dicD ns B fun q => (st ad x d q).1)) (h32 : S 32 = some (dicD ns B fun q => (st ad x d q).2)) (h33 : S 33 = some (dicD ns d fun q => (WAp ad x q).1)) :
  ∃ S3, exB nm fn FT26 sF_law_folders tp (n + 40) Bf3 (S.put 0 (.fr (strD ns p))) = exB nm fn FT26 sF_law_folders tp (n + 38) (.cons Sf3_2 .nil) S3 ∧ S3 31 = some (dicD ns B fun q => (st ad x d q).1) ∧ S3 32 = some (dicD ns B fun q => (st ad x d q).2) ∧ S3 33 = some (dicD ns (d ++ [p]) fun q => (WAp ad x q).1) ∧
   rhoOf S3 0 = some (.str (key ns p), false) ∧ rhoOf S3 34 = some (.str (dirS (key ns p)), false) ∧ Q.Off [0, 31, 32, 33, 34] S S3 := by
 have hp : p ∈ D := h ▸ List.mem_append_right _ List.mem_cons_self
 have w := O.vl hp
 have hB : ∀ q ∈ B, Vl q := fun q hq => O.vl (pB.mem_iff.mp hq)
 have ld : d.length ≤ 1000 := by
  have e := congrArg List.length h
  have := O.len
  rw [List.length_append] at e
  exact Nat.le_trans (Nat.le_trans (Nat.le_add_right _ _) (Nat.le_of_eq e)) (Nat.le_trans this (by decide))
 have pk : key ns p ∉ d.map (key ns) := fun q => (List.nodup_append.mp (h ▸ O.nd)).2.2 p ((key_mem N (fun q hq => O.vl (h ▸ List.mem_append_left _ hq)) w).mp q) p List.mem_cons_self rfl
 have full := st_full O (x := x) h hp fun k q => (List.mem_cons.mp q).elim (fun e => absurd (congrArg List.length e) (Nat.succ_ne_self _)) (O.no d p rest h.symm k)
 have ew : x * (st ad x d p).1 - (st ad x d p).2 = (WAp ad x p).1 := by rw [full]
 have b1 : x.natAbs < 2 ^ 4096 ∧ (st ad x d p).1.natAbs < 2 ^ 4096 := ⟨Nat.lt_trans hx (by decide +kernel), by have := (WAp_bd O (x := x) hx hp).2; rw [full] at this; exact this⟩
 have a1 := dic_at N hB (fun q => (st ad x d q).1) (pB.mem_iff.mpr hp)
 have a2 := dic_at N hB (fun q => (st ad x d q).2) (pB.mem_iff.mpr hp)
 have a3 := dic_new ld (fun q => (WAp ad x q).1) pk
 have o3 : (dicD ns d fun q => (WAp ad x q).1).own = true := rfl
 have s0 : exS nm fn FT26 sF_law_folders tp (n + 39) Sf3_0 (S.put 0 (.fr (strD ns p))) = some (.next, (S.put 0 (.fr (strD ns p))).put 33 (dicD ns (d ++ [p]) fun q => (WAp ad x q).1)) := by
  have r12 : rhoOf S 12 = _ := Q.rho S 12 _ h12
  have r31 : rhoOf S 31 = _ := Q.rho S 31 _ h31
  have r32 : rhoOf S 32 = _ := Q.rho S 32 _ h32
  simp only [Sf3_0, Q.setI, Q.put_at, if_false, Nat.reduceEqDiff, h33, Q.bin, Q.item, Q.var, Q.rho_put, if_true, r12, r31, r32, Q.d_fr, Q.o_fr, strD, a1, a2, Q.map_some, Q.itV_i, Q.mulI, b1, and_self, Q.subI, ew, o3, Q.at_i, Q.at_s, Bool.and_self, a3]
 have s1 : exS nm fn FT26 sF_law_folders tp (n + 38) Sf3_1 ((S.put 0 (.fr (strD ns p))).put 33 (dicD ns (d ++ [p]) fun q => (WAp ad x q).1)) = some (.next, ((S.put 0 (.fr (strD ns p))).put 33 (dicD ns (d ++ [p]) fun q => (WAp ad x q).1)).put 34 (.fr (.str (dirS (key ns p))))) := by
  have gd := g_dirname (key ns p) (Nat.le_trans (key_len N w) (by decide))
  simp only [Sf3_1, Q.asg, Q.call, Q.cons, Q.nil, Q.var, Q.rho_put, if_false, if_true, Nat.reduceEqDiff, Q.d_fr, Q.o_fr, ft26, k_law_folders, strD, Q.unt_cons, Q.unt_nil, List.map_cons, List.map_nil, List.length_cons, List.length_nil, Nat.zero_add, Nat.reduceLT, and_self, decide_true, e4_x, dFdirname, Bool.or_true, Bool.and_self, gd, Q.map_some, Q.itV_s, Bool.not_false, Q.sw_call]
 refine ⟨((S.put 0 (.fr (strD ns p))).put 33 (dicD ns (d ++ [p]) fun q => (WAp ad x q).1)).put 34 (.fr (.str (dirS (key ns p)))), ?_, h31, h32, rfl, rfl, rfl, ((Q.Off.refl.put (i := 0) (by decide)).put (i := 33) (by decide)).put (i := 34) (by decide)⟩
 rw [Bf3, Q.bcons, s0]
 dsimp only
 rw [Q.bcons, s1]
theorem folders_root {n : Nat} {S S3 : Sta} {B d : List (List Nat)} (hB : ∀ q ∈ B, Vl q) (q31 : S3 31 = some (dicD ns B fun q => (st ad x d q).1)) (q32 : S3 32 = some (dicD ns B fun q => (st ad x d q).2)) (q33 : S3 33 = some (dicD ns (d ++ [[0]]) fun q => (WAp ad x q).1))
  (r34 : rhoOf S3 34 = some (.str (dirS (key ns [0])), false)) (off : Q.Off [0, 31, 32, 33, 34] S S3) :
  ∃ S', exB nm fn FT26 sF_law_folders tp (n + 38) (.cons Sf3_2 .nil) S3 = some (.next, S') ∧ S' 31 = some (dicD ns B fun q => (st ad x (d ++ [[0]]) q).1) ∧ S' 32 = some (dicD ns B fun q => (st ad x (d ++ [[0]]) q).2) ∧ S' 33 = some (dicD ns (d ++ [[0]]) fun q => (WAp ad x q).1) ∧ Q.Off [0, 31, 32, 33, 34] S S' := by
 have r31 : rhoOf S3 31 = _ := Q.rho S3 31 _ q31
 rw [show dirS (key ns [0]) = slash from dir_one (nmS_nm N (by decide))] at r34
 have ic : inD (.str slash) (dicD ns B fun q => (st ad x d q).1).d = some false := by
  show some _ = _
  congr 1
  rw [← Bool.not_eq_true, List.contains_iff_mem]
  intro z
  obtain ⟨q, hq, e⟩ := List.mem_map.mp z
  exact key_slash N (hB q hq) e
 have cg : ∀ q ∈ B, st ad x (d ++ [[0]]) q = st ad x d q := fun q hq => by rw [st_snoc, if_neg fun z => (hB q hq).ne z.symm]
 refine ⟨S3, ?_, q31.trans (congrArg some (dic_congr fun q hq => congrArg (·.1) (cg q hq).symm)), q32.trans (congrArg some (dic_congr fun q hq => congrArg (·.2) (cg q hq).symm)), q33, off⟩
 simp only [Q.bcons, Sf3_2, Q.sif, Q.tcmp, Q.var, r34, r31, Q.isIn, ic, Q.bnil]
theorem folders_leaf {n : Nat} {S S3 : Sta} {B d : List (List Nat)} {k : Nat} {q : List Nat} (hB : ∀ q ∈ B, Vl q) (nB : B.Nodup) (lB : B.length ≤ 1000) (hd : ∀ c ∈ d ++ [k :: q], Vl c) (mq : q ∈ B) (mp : k :: q ∈ B) (bp : (WAp ad x (k :: q)).1.natAbs < 2 ^ 4096 ∧ (WAp ad x (k :: q)).2.natAbs < 2 ^ 4096) (bq : (st ad x d q).1.natAbs < 2 ^ 4096 ∧ (st ad x d q).2.natAbs < 2 ^ 4096) (ea : (st ad x d (k :: q)).1 = (WAp ad x (k :: q)).2)
  (q31 : S3 31 = some (dicD ns B fun q => (st ad x d q).1)) (q32 : S3 32 = some (dicD ns B fun q => (st ad x d q).2)) (q33 : S3 33 = some (dicD ns (d ++ [k :: q]) fun q => (WAp ad x q).1)) (r0 : rhoOf S3 0 = some (.str (key ns (k :: q)), false))
  (r34 : rhoOf S3 34 = some (.str (key ns q), false)) (off : Q.Off [0, 31, 32, 33, 34] S S3) :
  ∃ S', exB nm fn FT26 sF_law_folders tp (n + 38) (.cons Sf3_2 .nil) S3 = some (.next, S') ∧ S' 31 = some (dicD ns B fun r => (st ad x (d ++ [k :: q]) r).1) ∧ S' 32 = some (dicD ns B fun r => (st ad x (d ++ [k :: q]) r).2) ∧ S' 33 = some (dicD ns (d ++ [k :: q]) fun q => (WAp ad x q).1) ∧ Q.Off [0, 31, 32, 33, 34] S S' := by
 have r31 : rhoOf S3 31 = _ := Q.rho S3 31 _ q31
 have r32 : rhoOf S3 32 = _ := Q.rho S3 32 _ q32
 have r33 : rhoOf S3 33 = _ := Q.rho S3 33 _ q33
 have ic : inD (.str (key ns q)) (dicD ns B fun q => (st ad x d q).1).d = some true := congrArg some (List.contains_iff_mem.mpr (List.mem_map.mpr ⟨q, mq, rfl⟩))
 have a1 := dic_at N hB (fun q => (st ad x d q).1) mp
 have c1 := dic_at N hB (fun q => (st ad x d q).1) mq
 have c2 := dic_at N hB (fun q => (st ad x d q).2) mq
 have c3 := dic_at N hd (fun q => (WAp ad x q).1) (List.mem_append_right _ List.mem_cons_self)
 have m1 : (st ad x d q).2.natAbs < 2 ^ 4096 ∧ (WAp ad x (k :: q)).1.natAbs < 2 ^ 4096 := ⟨bq.2, bp.1⟩
 have m2 : (st ad x d q).1.natAbs < 2 ^ 4096 ∧ (WAp ad x (k :: q)).2.natAbs < 2 ^ 4096 := ⟨bq.1, bp.2⟩
 have m3 : (st ad x d q).1.natAbs < 2 ^ 4096 ∧ (WAp ad x (k :: q)).1.natAbs < 2 ^ 4096 := ⟨bq.1, bp.1⟩
 have sn : ∀ r, st ad x (d ++ [k :: q]) r = if r = q then step (st ad x d q) (WAp ad x (k :: q)) else st ad x d r := fun r => by
  rw [st_snoc]
  by_cases z : r = q
  ·rw [if_pos z, z, if_pos (show (k :: q).tail = q from rfl)]
  ·rw [if_neg z, if_neg fun y => z y.symm]
 have t1 := dic_set N hB nB lB (fun r => (st ad x d r).1) (fun r => (st ad x (d ++ [k :: q]) r).1) mq ((st ad x d q).1 * (WAp ad x (k :: q)).1) fun r => by rw [sn]; exact apply_ite Prod.fst _ _ _
 have t2 := dic_set N hB nB lB (fun r => (st ad x d r).2) (fun r => (st ad x (d ++ [k :: q]) r).2) mq ((st ad x d q).2 * (WAp ad x (k :: q)).1 + (st ad x d q).1 * (WAp ad x (k :: q)).2) fun r => by rw [sn]; exact apply_ite Prod.snd _ _ _
 have o1 : (dicD ns B fun q => (st ad x d q).1).own = true := rfl
 have o2 : (dicD ns B fun q => (st ad x d q).2).own = true := rfl
 refine ⟨(S3.put 32 (dicD ns B fun r => (st ad x (d ++ [k :: q]) r).2)).put 31 (dicD ns B fun r => (st ad x (d ++ [k :: q]) r).1), ?_, Q.put_get, rfl, q33, (off.put (i := 32) (by decide)).put (i := 31) (by decide)⟩
 simp only [Q.bcons, Sf3_2, Q.sif, Q.tcmp, Q.var, r34, r31, Q.isIn, ic, Q.bnil, Q.setI, Q.bin, Q.item, r32, r33, r0, a1, c1, c2, c3, ea, q32, Q.put_at, if_false, if_true, Nat.reduceEqDiff, q31, Q.rho_put, Q.map_some, Q.itV_i, Q.mulI, m1, m2, and_self, Q.addI, o1, o2, Q.at_i, Q.at_s, Bool.and_self, t1, t2]
theorem folders_turn {n : Nat} {S : Sta} {B D d rest : List (List Nat)} {p : List Nat} (hx : x.natAbs < 1000) (O : Od ad D) (pB : B.Perm D) (h : d ++ p :: rest = D) (h12 : S 12 = some (.fr (.int x)))
  (h31 : S 31 = some (dicD ns B fun q => (st ad x d q).1)) (h32 : S 32 = some (dicD ns B fun q => (st ad x d q).2)) (h33 : S 33 = some (dicD ns d fun q => (WAp ad x q).1)) :
  ∃ S', exB nm fn FT26 sF_law_folders tp (n + 40) Bf3 (S.put 0 (.fr (strD ns p))) = some (.next, S') ∧ S' 31 = some (dicD ns B fun q => (st ad x (d ++ [p]) q).1) ∧ S' 32 = some (dicD ns B fun q => (st ad x (d ++ [p]) q).2) ∧ S' 33 = some (dicD ns (d ++ [p]) fun q => (WAp ad x q).1) ∧ Q.Off [0, 31, 32, 33, 34] S S' := by
 obtain ⟨S3, e, q31, q32, q33, r0, r34, off⟩ := folders_head N (tp := tp) (n := n) hx O pB h h12 h31 h32 h33
 rw [e]
 have hp : p ∈ D := h ▸ List.mem_append_right _ List.mem_cons_self
 have hB : ∀ q ∈ B, Vl q := fun q hq => O.vl (pB.mem_iff.mp hq)
 cases p with
 | nil => exact absurd rfl (O.vl hp).ne
 | cons k q =>
  rcases O.up hp with e0 | ⟨hq, hk⟩
  ·rw [e0] at q33 r34 ⊢
   exact folders_root N hB q31 q32 q33 r34 off
  ·rw [key_dir N (O.vl hq) ((O.vl hp).lt k List.mem_cons_self)] at r34
   have full := st_full O (x := x) h hp fun m q => (List.mem_cons.mp q).elim (fun e => absurd (congrArg List.length e) (Nat.succ_ne_self _)) (O.no d _ rest h.symm m)
   exact folders_leaf N hB (pB.nodup_iff.mpr O.nd) (Nat.le_trans (Nat.le_of_eq pB.length_eq) (Nat.le_trans O.len (by decide))) (fun q hq => O.vl (h ▸ (List.mem_append.mp hq).elim (List.mem_append_left _) fun z => List.mem_append_right _ (List.mem_singleton.mp z ▸ List.mem_cons_self))) (pB.mem_iff.mpr hq) (pB.mem_iff.mpr hp) (WAp_bd O hx hp) (st_bd O hx h List.mem_cons_self hq) (by rw [full]) q31 q32 q33 r0 r34 off
theorem g_folders {P : List (List Nat)} (hx : x.natAbs < 1000) (pP : P.Perm (sub ad [0])) (i0 : itemD (waysD ns P) (.int 0) = some (strD ns [0])) : E26.g [waysD ns P, .int x] = some (.tup [.int (WAp ad x [0]).1, .int (WAp ad x [0]).2]) := by
 obtain ⟨D, O, eD⟩ := Od.of (ns := ns) pP
 have pD := pP.trans O.pm.symm
 have hP : ∀ q ∈ P, Vl q := fun q hq => O.vl (pD.mem_iff.mp hq)
 have lP : P.length ≤ 65 := Nat.le_trans (Nat.le_of_eq pD.length_eq) O.len
 have lP' : P.length ≤ 1000 := Nat.le_trans lP (by decide)
 have nP : P.Nodup := pD.nodup_iff.mpr O.nd
 generalize hS : staOf pF_law_folders [waysD ns P, .int x] = S
 have h26 : S 26 = some (.fr (waysD ns P)) := by rw [← hS]; rfl
 have h12 : S 12 = some (.fr (.int x)) := by rw [← hS]; rfl
 have s0 := folders_one N (tp := false) (n := 179) hP nP lP' h26
 have s1 := folders_two N (tp := false) (n := 178) (S := S.put 31 (dicD ns P fun _ => 1)) hP nP lP' h26
 generalize hS3 : ((S.put 31 (dicD ns P fun _ => 1)).put 32 (dicD ns P fun _ => 0)).put 33 (.di [] []) = S3
 have q26 : S3 26 = some (.fr (waysD ns P)) := by rw [← hS3]; exact h26
 have q12 : S3 12 = some (.fr (.int x)) := by rw [← hS3]; exact h12
 have s3 : evSrc nm fn FT26 195 sF_law_folders Xf3 false (rhoOf S3) = some (D.map (strD ns), false, false) := by
  have e1 : P.map (strD ns) = (P.map (key ns)).map .str := by rw [List.map_map]; rfl
  have r26 : rhoOf S3 26 = some (.lst ((P.map (key ns)).map .str), false) := by rw [← e1]; exact Q.rho S3 26 _ q26
  have sd := sort_D (xs := P.map (key ns)) (by rw [List.length_map]; omega)
  have l2 : ((sortS (P.map (key ns))).map Mine.D.str).length ≤ 100000 := by rw [List.length_map, (sortS_perm _).length_eq, List.length_map]; omega
  have e2 : ((sortS (P.map (key ns))).map Mine.D.str).reverse = D.map (strD ns) := by rw [← List.map_reverse, eD, List.map_map]; rfl
  have l3 : (D.map (strD ns)).length ≤ 100000 := by rw [List.length_map]; exact Nat.le_trans O.len (by decide)
  simp only [Xf3, Q.srev, Q.rev, Q.bi, Q.cons, Q.nil, Q.var, r26, k_law_folders, List.map_cons, List.map_nil, List.length_cons, List.length_nil, Nat.zero_add, Nat.reduceLT, and_self, decide_true, Bool.and_self, if_true, sd, Q.map_some, listLine, l2, e2, Q.sr_l, l3]
 obtain ⟨S4, e4, ⟨q31, q32, q33⟩, off⟩ := Q.loop_l (f := exB nm fn FT26 sF_law_folders false 195 Bf3) (tg := .one 0 ⟨258,8,258,12⟩) (g := strD ns) (fun d S' => (S' 31 = some (dicD ns P fun q => (st ad x d q).1) ∧ S' 32 = some (dicD ns P fun q => (st ad x d q).2) ∧ S' 33 = some (dicD ns d fun q => (WAp ad x q).1)) ∧ Q.Off [0, 31, 32, 33, 34] S3 S') D [] S3 ⟨⟨by rw [← hS3]; rfl, by rw [← hS3]; rfl, by rw [← hS3]; rfl⟩, Q.Off.refl⟩ fun d p rest S1 h ⟨⟨i1, i2, i3⟩, o⟩ => by
  obtain ⟨S2, e, j1, j2, j3, o'⟩ := folders_turn N (tp := false) (n := 155) hx O pD h.symm ((o 12 (by decide)).trans q12) i1 i2 i3
  exact ⟨_, rfl, S2, e, ⟨j1, j2, j3⟩, o.trans o'⟩
 rw [List.nil_append] at q31 q32 q33
 have full := st_full O (x := x) (d := D) (rest := []) (List.append_nil D) O.zero fun k h => by cases h
 have a1 := dic_at N hP (fun q => (st ad x D q).1) (pD.mem_iff.mpr O.zero)
 have a3 := dic_at N (fun q hq => O.vl hq) (fun q => (WAp ad x q).1) O.zero
 have ea : (st ad x D [0]).1 = (WAp ad x [0]).2 := by rw [full]
 have r31 : rhoOf S4 31 = _ := Q.rho S4 31 _ q31
 have r33 : rhoOf S4 33 = _ := Q.rho S4 33 _ q33
 have r26 : rhoOf S4 26 = some (waysD ns P, false) := Q.rho S4 26 _ ((off 26 (by decide)).trans q26)
 rw [e26_g]
 refine Q.gOf_ex (ds' := [waysD ns P, .int x]) rfl rfl ⟨S4, ?_⟩
 rw [hS]
 show exB nm fn FT26 sF_law_folders false 200 bF_law_folders S = _
 have s2 : exS nm fn FT26 sF_law_folders false 197 Sf2 ((S.put 31 (dicD ns P fun _ => 1)).put 32 (dicD ns P fun _ => 0)) = some (.next, S3) := by
  rw [← hS3]
  simp only [Sf2, Q.own, Q.dict0, k_law_folders, swapOk, Bool.and_self, if_true, Q.so_di, List.all_nil, Q.map_some]
 simp only [bF_law_folders, Q.bcons, s0, s1, s2, Sf3, Q.sfor, s3, Q.tw1, Q.tv1, k_law_folders, List.all_cons, List.all_nil, beq_self_eq_true, Bool.and_self, if_true, e4, Sf4, Q.sret, Q.tup, Q.cons, Q.nil, Q.item, Q.var, Q.int, r31, r33, r26, i0, Q.map_some, strD, Q.itV_ff, Q.itV_i, a1, a3, ea, List.map_cons, List.map_nil, List.length_cons, List.length_nil, Nat.zero_add, Nat.reduceAdd, Nat.reduceLeDiff, Q.unt_cons, Q.unt_nil, Bool.not_false, Bool.not_true]
end
end L1
end
section
namespace Q
section
variable {nm fn : Nat → Str} {FT : List FE} {n : Nat} {sc sc' : Scope} {tp : Bool} {r : Rho} {γ : Type} {i j kk : Nat} {q1 q2 q3 pos : Pos} {src e : X} {ifs : XS} {a b : γ → D} {p : γ → Bool}
theorem lc2 (xs : List γ) (h1 : (compOk sc sc' && varsOk nm sc' (.cons (.two i q1 j q2 kk q3) src ifs .nil)) = true) (h2 : evSrc nm fn FT n sc src tp r = some (xs.map fun x => .tup [a x, b x], false, true)) (h3 : xs.length ≤ listLine)
  (h4 : ∀ x ∈ xs, evIfs nm fn FT n (rel sc sc') ifs (fun k => if k = j then some (b x, false) else if k = i then some (a x, false) else inner nm sc' r k) = some (p x)) (h5 : ∀ x ∈ xs, ev nm fn FT (n + 1) (rel sc sc') e false (fun k => if k = j then some (b x, false) else if k = i then some (a x, false) else inner nm sc' r k) = some (b x, false)) :
  ev nm fn FT (n + 2) sc (.lcomp e (.cons (.two i q1 j q2 kk q3) src ifs .nil) sc' pos) tp r = some (.lst ((xs.filter p).map b), false) := by
 rw [lcomp, if_pos h1, g0, h2]
 dsimp only
 rw [g1, tw2, if_pos (show (true == true) = true from rfl), cl_filter (h := fun x => (b x, false)) (p := p) xs fun x hx => by
  show (match evIfs nm fn FT n (rel sc sc') ifs (fun k => if k = j then some (b x, false) else if k = i then some (a x, false) else inner nm sc' r k) with
   | some true => _
   | some false => _
   | none => _) = _
  rw [h4 x hx]
  cases p x
  ·rfl
  ·show (match ev nm fn FT (n + 1) (rel sc sc') e false (fun k => if k = j then some (b x, false) else if k = i then some (a x, false) else inner nm sc' r k) with
    | some v => some [v]
    | none => none) = _
   rw [h5 x hx]; rfl]
 dsimp only
 rw [if_pos ⟨by rw [List.length_map]; exact Nat.le_trans (List.length_filter_le _ _) h3, unt_map b _⟩, fst_map]
end
end Q
namespace L1
open Go
noncomputable def CellsAt (m : Nat) (S : Sta) : Prop := ∃ a b c : Int, S 10 = some (.li [.int a, .int b, .int c]) ∧ (0 ≤ a ∧ a ≤ 1000 + 10000000 * m)
section
variable {tp : Bool} {n : Nat} {S : Sta}
theorem drawn_turn (j : Nat) (z : Int) (m : Nat) (h : CellsAt m S) : ∃ S2, exB nm fn FT11 sF_law_drawn tp (n + 12) Bd1 ((S.put 11 (.fr (.int j))).put 12 (.fr (.int z))) = some (.next, S2) ∧ CellsAt (m + 1) S2 := by
 obtain ⟨a, b, c, h10, ha⟩ := h
 have z1 : 0 ≤ z.fmod 10000000 := Int.fmod_nonneg_of_pos z (by decide)
 have z2 : z.fmod 10000000 < 10000000 := Int.fmod_lt_of_pos z (by decide)
 have e4 : (j : Int).fmod 3 = ((j % 3 : Nat) : Int) := by rw [Int.fmod_eq_emod_of_nonneg _ (by decide)]; omega
 have key : j % 3 = 0 ∨ j % 3 = 1 ∨ j % 3 = 2 := by omega
 rcases key with q | q | q <;> rw [q] at e4 <;> (
  apply Q.out
  ·simp only [Bd1, Sd1_0, Q.var, Q.int, Q.bin, Q.augI, Q.bnil, Q.bcons, Q.addI, Q.modI, Q.itL, Q.itV_ff, Q.rho_put, Q.put_at, Q.d_fr, Q.d_li, Q.o_fr, Q.o_li, Q.map_some, Q.bind_some, Q.ss_li, Q.at_i, Q.mo_add, listLine, List.length_cons, List.length_nil, Bool.or_false, Bool.and_self, if_true, if_false, Nat.reduceEqDiff, Nat.reduceAdd, Nat.reduceLeDiff, Nat.succ_ne_self, and_self, ne_eq, not_false_eq_true, Int.reduceEq, Int.reduceLT, Int.reduceLE, Int.reduceToNat, Int.reduceAdd, Int.cast_ofNat_Int, Nat.zero_add, idxOf, List.getElem?_cons_zero, List.getElem?_cons_succ, List.set_cons_zero, List.set_cons_succ, h10, e4]
   rfl
  ·exact ⟨_, _, _, Q.put_get, by omega, by omega⟩)
theorem drawn_for (zs : List Int) (h9 : S 9 = some (.fr (.lst (zs.map .int)))) (hz : zs.length ≤ 63) (h : CellsAt 0 S) : ∃ S1, exS nm fn FT11 sF_law_drawn tp (n + 20) Sd1 S = some (.next, S1) ∧ CellsAt 60 S1 := by
 have hr9 := Q.rho S 9 _ h9
 have hl : zs.length ≤ 100000 := by omega
 have hlt' : (List.take (min 60 zs.length) (List.map D.int zs)).length ≤ 60 := by rw [List.length_take]; omega
 have hlt3 : (List.take (min 60 zs.length) (List.map D.int zs)).length ≤ 100000 := by omega
 simp only [Sd1, Xd1, Q.var, Q.int, Q.slice, Q.nil, Q.cons, Q.onone, Q.osome, Q.senum, Q.en1, Q.sfor, Q.slL, Q.cutN, Q.cutI, Q.itV_ff, Q.d_fr, Q.o_fr, Q.map_some, Q.tw2, Q.tv2, listLine, List.all_cons, List.all_nil, Bool.and_true, Bool.and_self, if_true, Int.reduceLE, Int.reduceToNat, k_law_drawn, hr9, hl, List.length_map, List.drop_zero, hlt3, decide_true]
 obtain ⟨S1, e1, p1⟩ := Q.loop_inv (f := exB nm fn FT11 sF_law_drawn tp (n + 19) Bd1) (tg := (.two 11 ⟨209,8,209,9⟩ 12 ⟨209,11,209,12⟩ 0 ⟨209,8,209,12⟩)) (I := CellsAt) (enumD 0 (List.take (min 60 zs.length) (List.map D.int zs))) 0 S h (fun j d S hd hI => by
  rw [Q.enum_get] at hd
  cases hz : (List.take (min 60 zs.length) (List.map D.int zs))[j]? with
  | none => rw [hz] at hd; cases hd
  | some z =>
  rw [hz] at hd; cases hd
  have hm := List.mem_of_mem_take (List.mem_of_getElem? hz)
  obtain ⟨z, _, rfl⟩ := List.mem_map.mp hm
  obtain ⟨S2, e2, p2⟩ := drawn_turn (tp := tp) (n := n + 7) (0 + j) z (0 + j) hI
  exact ⟨_, S2, rfl, e2, p2⟩)
 refine ⟨S1, e1, ?_⟩
 rw [Q.enum_len] at p1
 obtain ⟨a, b, c, h10, ha⟩ := p1
 exact ⟨a, b, c, h10, by omega, by omega⟩
theorem pool_item {q : Nat} (h : q < 12) : itemD (.lst (pool.map D.str)) (.int (q : Int)) = some (.str (poolAt q)) := by
 rw [Q.itL, Q.idxN _ _ (by rw [List.length_map]; exact h), Q.bind_some, if_pos (by rw [List.length_map]; decide), List.getElem?_map]
 unfold poolAt
 rw [List.getD_eq_getElem?_getD, List.getElem?_eq_getElem (show q < pool.length from h)]
 rfl
noncomputable def texts (j : Nat) : List Str := (List.range 5).map fun i => poolAt ((j + i) % 12)
theorem drawn_texts {A j : Nat} {b c : D} (h10 : S 10 = some (.li [.int A, b, c])) (h13 : S 13 = some (.fr (.lst (pool.map .str)))) (hA : A < 1000000000) (hj : j = A / 5 % 12) :
  exS nm fn FT11 sF_law_drawn tp (n + 20) Sd3 S = some (.next, S.put 14 (.fr (.lst ((texts j).map .str)))) := by
 have r10 := Q.rho S 10 _ h10
 have r13 := Q.rho S 13 _ h13
 have hc : itemD (.lst [.int A, b, c]) (.int 0) = some (.int A) := rfl
 have hA' : A < 4611686018427387904 := by omega
 simp only [Sd3, Q.asg]
 rw [Q.lc0 (d := fun i => .str (poolAt ((j + i) % 12))) (g := fun k : Nat => D.int (k : Nat)) (tn := false) (List.range 5) ?_ ?_ (by decide) fun k hk => ?_]
 ·have e : (List.range 5).map (fun i => D.str (poolAt ((j + i) % 12))) = (texts j).map .str := by unfold texts; rw [List.map_map]; rfl
  simp only [e, k_law_drawn, Q.swl, Bool.and_self, if_true]
 ·simp only [k_law_drawn, Bool.and_self]
 ·simp only [Q.srange, Q.cons, Q.nil, Q.int, Q.rg1, k_law_drawn, Q.na5, Bool.true_and, Nat.reduceLT, decide_true, if_true]
  rfl
 ·have e : ((A : Int).fdiv 5 + (k : Int)).fmod 12 = (((j + k) % 12 : Nat) : Int) := by
   rw [Int.fdiv_eq_ediv_of_nonneg _ (by decide), Int.fmod_eq_emod_of_nonneg _ (by decide)]; omega
  simp only [Q.item, Q.var, Q.rx_i, Q.rx_k, Nat.reduceBEq, k_law_drawn, r10, r13, Q.d_li, Q.o_li, Q.d_fr, Q.o_fr, Q.bin, Q.int, hc, Q.map_some, Q.itV_i, Q.fdivI, Q.addI, Q.modI, hA', Int.natAbs_natCast, Q.na5, Nat.reducePow, Nat.reduceLT, ne_eq, Int.reduceEq, not_false_eq_true, and_self, if_true, e, pool_item (Nat.mod_lt (j + k) (show 0 < 12 by decide)), Bool.or_false, Q.itV_ff]
noncomputable def pairL : List (Nat × Nat) := [(0, 1), (0, 2), (0, 3), (0, 4), (1, 2), (1, 3), (1, 4), (2, 3), (2, 4), (3, 4)]
noncomputable def pairD (p : Nat × Nat) : D := .tup [.int (p.1 : Nat), .int (p.2 : Nat)]
theorem drawn_pairs : exS nm fn FT11 sF_law_drawn tp 195 Sd4 S = some (.next, S.put 15 (.fr (.lst (pairL.map pairD)))) := by
 kernel_rfl
noncomputable def bt (b : Int) (x : Nat) : Bool := Builtin.bitAnd (b.fdiv (2 ^ x)) 1 != 0
noncomputable def pairsOf (b : Int) : List (Nat × Nat) := ((List.range 10).filter (bt b)).map fun x => pairL.getD x (0, 0)
noncomputable def adj (ps : List (Nat × Nat)) (k m : Nat) : Bool := ps.contains (k, m) || ps.contains (m, k)
theorem adj_sy (ps : List (Nat × Nat)) (k m : Nat) : adj ps k m = adj ps m k := Bool.or_comm _ _
theorem drawn_filter {a b : Int} {c : D} (h10 : S 10 = some (.li [.int a, .int b, c])) (h15 : S 15 = some (.fr (.lst (pairL.map pairD)))) : exS nm fn FT11 sF_law_drawn tp (n + 20) Sd5 S = some (.next, S.put 15 (.fr (.lst ((pairsOf b).map pairD)))) := by
 have r10 := Q.rho S 10 _ h10
 have r15 := Q.rho S 15 _ h15
 have hc : itemD (.lst [.int a, .int b, c]) (.int 1) = some (.int b) := rfl
 simp only [Sd5, Q.asg]
 rw [Q.lc2 (a := fun x => .int (x : Nat)) (b := fun x => pairD (pairL.getD x (0, 0))) (p := bt b) (List.range 10) ?_ ?_ (by decide) (fun x _ => ?_) fun x _ => ?_]
 ·have e : ((List.range 10).filter (bt b)).map (fun x => pairD (pairL.getD x (0, 0))) = (pairsOf b).map pairD := by unfold pairsOf; rw [List.map_map]; rfl
  simp only [e, k_law_drawn, Q.swl, Bool.and_self, if_true]
 ·simp only [k_law_drawn, Bool.and_self]
 ·simp only [Q.senum, Q.cons, Q.nil, Q.var, r15, Q.d_fr, Q.o_fr, Q.en1, k_law_drawn, List.length_map, listLine]
  rfl
 ·have e : (0 : Int) ≤ (x : Nat) := Int.natCast_nonneg x
  simp only [Q.icons, Q.tbin, Q.bin, Q.item, Q.var, Q.int, if_false, if_true, Nat.reduceEqDiff, k_law_drawn, r10, Q.d_li, Q.o_li, hc, Q.map_some, Q.itV_i, Q.rshI, e, Int.toNat_natCast, Q.bandI, Q.tI, Q.inil]
  show _ = some (bt b x)
  unfold bt
  cases (Builtin.bitAnd (b.fdiv (2 ^ x)) 1 != 0) <;> rfl
 ·simp only [Q.var, if_true]
theorem pairs_of : ∀ ps : List (Nat × Nat), pairsOf' (ps.map pairD) = some (ps.map fun p => (((p.1 : Nat) : Int), ((p.2 : Nat) : Int)))
 | [] => rfl
 | p :: r => by
  show (match pairOf (pairD p), pairsOf' (r.map pairD) with
   | some p, some ps => some (p :: ps)
   | _, _ => none) = _
  rw [pairs_of r]; rfl
theorem in_pairs (ps : List (Nat × Nat)) (k m : Nat) : inD (.tup [.int (k : Nat), .int (m : Nat)]) (.lst (ps.map pairD)) = some (ps.contains (k, m)) := by
 rw [Q.inPL, pairs_of, Q.map_some, List.any_map]
 congr 1
 induction ps with
 | nil => rfl
 | cons p r ih =>
  rw [List.any_cons, ih, List.contains_cons]
  congr 1
  rw [Bool.eq_iff_iff, beq_iff_eq]
  show ((((p.1 : Nat) : Int), ((p.2 : Nat) : Int)) == (((k : Nat) : Int), ((m : Nat) : Int))) = true ↔ _
  rw [beq_iff_eq, Prod.mk.injEq, Int.ofNat_inj, Int.ofNat_inj]
  exact ⟨fun ⟨a, b⟩ => Prod.ext a.symm b.symm, fun e => by rw [← e]; exact ⟨rfl, rfl⟩⟩
theorem drawn_near {ps : List (Nat × Nat)} (h15 : S 15 = some (.fr (.lst (ps.map pairD)))) : exS nm fn FT11 sF_law_drawn tp (n + 20) Sd6 S = some (.next, S.put 19 (.fr (nearD (adj ps)))) := by
 have r15 := Q.rho S 15 _ h15
 simp only [Sd6, Q.asg]
 rw [Q.lc0 (d := fun k => .lst (intsD ((List.range 5).filter (adj ps k)))) (g := fun k : Nat => D.int (k : Nat)) (tn := false) (List.range 5) ?_ ?_ (by decide) fun k hk => ?_]
 ·simp only [k_law_drawn, Q.swl, Bool.and_self, if_true]; rfl
 ·simp only [k_law_drawn, Bool.and_self]
 ·simp only [Q.srange, Q.cons, Q.nil, Q.int, Q.rg1, k_law_drawn, Q.na5, Bool.true_and, Nat.reduceLT, decide_true, if_true]
  rfl
 ·refine Q.lc1 (d := fun m : Nat => D.int (m : Nat)) (g := fun m : Nat => D.int (m : Nat)) (p := adj ps k) (tn := false) (List.range 5) ?_ ?_ (by decide) (fun m _ => ?_) fun m _ => ?_
  ·simp only [k_law_drawn, Bool.and_self]
  ·simp only [Q.srange, Q.cons, Q.nil, Q.int, Q.rg1, k_law_drawn, Q.na5, Bool.true_and, Nat.reduceLT, decide_true, if_true]
   rfl
  ·simp only [Q.icons, Q.tor, Q.tcmp, Q.tup, Q.cons, Q.nil, Q.var, Q.rx_i, Q.rx_k, Nat.reduceBEq, k_law_drawn, Q.itV_i, List.map_cons, List.map_nil, List.length_cons, List.length_nil, Nat.zero_add, Nat.reduceAdd, Nat.reduceLeDiff, if_true, Q.unt_cons, Q.unt_nil, Bool.not_false, Bool.and_self, Bool.not_true, r15, Q.d_fr, Q.o_fr, Q.isIn, in_pairs, Q.inil]
   unfold adj
   cases ps.contains (k, m) <;> cases ps.contains (m, k) <;> rfl
  ·simp only [Q.var, Q.rx_i, Q.itV_i]
end
theorem g_drawn (zs : List Int) (hz : zs.length ≤ 63) : ∃ (k j : Nat) (ad : Nat → Nat → Bool) (x : Int), k < 5 ∧ j < 12 ∧ (∀ u v, ad u v = ad v u) ∧ x.natAbs < 1000 ∧
  E11.g [.lst (zs.map .int)] = some (.tup [.int (k : Nat), .lst ((texts j).map .str), nearD ad, .int x]) := by
 generalize hS : staOf pF_law_drawn [.lst (zs.map .int)] = S
 have h9 : S 9 = some (.fr (.lst (zs.map .int))) := by rw [← hS]; rfl
 have s0 : exS nm fn FT11 sF_law_drawn false 199 Sd0 S = some (.next, S.put 10 (.li [.int 2, .int 697, .int 3])) := by
  simp only [Sd0, Q.int, Q.list, Q.nil, Q.cons, Q.own, Q.unt_nil, Q.unt_cons, Q.map_some, Q.so_li, Q.at_i, List.map_cons, List.map_nil, List.length_cons, List.length_nil, List.all_cons, List.all_nil, Bool.not_true, Bool.not_false, Bool.and_self, if_true, Q.sw_list, Nat.reduceAdd, Nat.reduceLeDiff, Nat.zero_add, k_law_drawn]
 obtain ⟨S1, e1, a, b, c, h10, ha⟩ := drawn_for (n := 178) (tp := false) (S := S.put 10 (.li [.int 2, .int 697, .int 3])) zs h9 hz ⟨2, 697, 3, Q.put_get, by decide, by decide⟩
 obtain ⟨A, rfl⟩ := Int.eq_ofNat_of_zero_le ha.1
 have s2 : exS nm fn FT11 sF_law_drawn false 197 Sd2 S1 = some (.next, S1.put 13 (.fr (.lst (pool.map .str)))) := by
  simp only [Sd2, Q.str, Q.list, Q.nil, Q.cons, Q.asg, Q.unt_nil, Q.unt_cons, List.map_cons, List.map_nil, List.length_cons, List.length_nil, Bool.not_true, Bool.not_false, Bool.and_self, if_true, Q.sw_list, Nat.reduceAdd, Nat.reduceLeDiff, Nat.zero_add, k_law_drawn]; rfl
 have s3 := drawn_texts (n := 176) (tp := false) (S := S1.put 13 (.fr (.lst (pool.map .str)))) (j := A / 5 % 12) h10 Q.put_get (by omega) rfl
 generalize hS3 : (S1.put 13 (.fr (.lst (pool.map .str)))).put 14 (.fr (.lst ((texts (A / 5 % 12)).map .str))) = S3 at s3
 have s4 := drawn_pairs (tp := false) (S := S3)
 have s5 := drawn_filter (n := 174) (tp := false) (S := S3.put 15 (.fr (.lst (pairL.map pairD)))) (by rw [← hS3]; exact h10) Q.put_get
 generalize hS5 : (S3.put 15 (.fr (.lst (pairL.map pairD)))).put 15 (.fr (.lst ((pairsOf b).map pairD))) = S5 at s5
 have s6 := drawn_near (n := 173) (tp := false) (S := S5) (by rw [← hS5]; exact Q.put_get)
 have r10 : rhoOf (S5.put 19 (.fr (nearD (adj (pairsOf b))))) 10 = _ := Q.rho _ 10 (.li [.int A, .int b, .int c]) (by rw [← hS5, ← hS3]; exact h10)
 have r14 : rhoOf (S5.put 19 (.fr (nearD (adj (pairsOf b))))) 14 = _ := Q.rho _ 14 (.fr (.lst ((texts (A / 5 % 12)).map .str))) (by rw [← hS5, ← hS3]; rfl)
 have r19 : rhoOf (S5.put 19 (.fr (nearD (adj (pairsOf b))))) 19 = _ := Q.rho _ 19 (.fr (nearD (adj (pairsOf b)))) Q.put_get
 have e5 : (A : Int).fmod 5 = ((A % 5 : Nat) : Int) := by rw [Int.fmod_eq_emod_of_nonneg _ (by decide)]; omega
 have c0 : itemD (.lst [.int A, .int b, .int c]) (.int 0) = some (.int A) := rfl
 have c2 : itemD (.lst [.int A, .int b, .int c]) (.int 2) = some (.int c) := rfl
 have x1 : 0 ≤ c.fmod 1000 := Int.fmod_nonneg_of_pos c (by decide)
 have x2 : c.fmod 1000 < 1000 := Int.fmod_lt_of_pos c (by decide)
 refine ⟨A % 5, A / 5 % 12, adj (pairsOf b), c.fmod 1000, Nat.mod_lt _ (by decide), Nat.mod_lt _ (by decide), adj_sy _, by omega, ?_⟩
 rw [e11_g]
 refine Q.gOf_ex (ds' := [.lst (zs.map .int)]) rfl rfl ⟨S5.put 19 (.fr (nearD (adj (pairsOf b)))), ?_⟩
 rw [hS]
 show exB nm fn FT11 sF_law_drawn false 200 bF_law_drawn S = _
 simp only [bF_law_drawn, Q.bcons, s0, e1, s2, s3, s4, s5, s6, Sd7, Q.sret, Q.tup, Q.cons, Q.nil, Q.bin, Q.item, Q.var, Q.int, r10, r14, r19, Q.d_li, Q.o_li, Q.d_fr, Q.o_fr, c0, c2, Q.map_some, Q.itV_i, Q.modI, ne_eq, Int.reduceEq, not_false_eq_true, if_true, e5, List.map_cons, List.map_nil, List.length_cons, List.length_nil, Nat.zero_add, Nat.reduceAdd, Nat.reduceLeDiff, Q.unt_cons, Q.unt_nil, Bool.not_false, Bool.not_true, Bool.and_self]
end L1
end
section
namespace L1
open Go
theorem ns_of {k j : Nat} (hk : k < 5) (hj : j < 12) : Ns (namesOf k j) := ⟨names_length k j, (names_ok hk hj).1, (names_ok hk hj).2⟩
theorem same_ne {xs : List Str} (h : xs.length ≤ 1000) : cmpD .ne (.lst (xs.map .str)) (.lst (xs.map .str)) = some false := by
 cases xs with
 | nil => rfl
 | cons x r =>
  have e : eqStrs ((x :: r).map D.str) ((x :: r).map D.str) = some true := by
   unfold eqStrs
   simp only [Q.strsOf_map, h, if_true, decide_true]
  rw [List.map_cons, Q.neC, ← List.map_cons, e]; rfl
section
variable {k j : Nat} {ad : Nat → Nat → Bool} {x : Int} {S : Sta} {n : Nat}
theorem names_src {sc : Scope} {FT : List FE} (h14 : S 14 = some (.fr (.lst ((texts j).map .str)))) (p : Pos) : evSrc nm fn FT (n + 5) sc (.var 14 p) true (rhoOf S) = some ((List.range 5).map fun i => .str (poolAt ((j + i) % 12)), false, false) := by
 have r14 := Q.rho S 14 _ h14
 have e : (texts j).map D.str = (List.range 5).map fun i => .str (poolAt ((j + i) % 12)) := by unfold texts; rw [List.map_map]; rfl
 rw [e] at r14
 simp only [Q.svar, Q.var, r14, Q.d_fr, Q.o_fr, Q.sr_l]
 rfl
theorem names_D : (List.range 5).map (fun i => D.str (nameAt k ((j + i) % 12))) = (namesOf k j).map .str := by unfold namesOf; rw [List.map_map]; rfl
theorem law_told (hk : k < 5) (h1 : S 1 = some (.fr (.int (k : Nat)))) (h14 : S 14 = some (.fr (.lst ((texts j).map .str)))) : exS nm fn FT27 sFlaw true (n + 20) Sl2 S = some (.next, S.put 35 (.fr (namesD (namesOf k j)))) := by
 have r1 := Q.rho S 1 _ h1
 have x12 : E12.exact = true := rfl
 simp only [Sl2, Q.asg]
 rw [Q.lc0 (d := fun i => .str (nameAt k ((j + i) % 12))) (List.range 5) (by simp only [klaw, Bool.and_self]) (names_src h14 _) (by decide) fun i _ => ?_]
 ·simp only [names_D, klaw, Q.swl, Bool.and_self, if_true]; rfl
 ·simp only [Q.call, Q.cons, Q.nil, Q.var, Q.rx_i, Q.rx_k, Nat.reduceBEq, klaw, r1, Q.d_fr, Q.o_fr, ft27, Q.itV_s, x12, Bool.or_true, Bool.and_self, List.map_cons, List.map_nil, List.length_cons, List.length_nil, Nat.zero_add, Nat.reduceAdd, Nat.reduceLT, and_self, decide_true, if_true, g_told hk (Nat.mod_lt (j + i) (show 0 < 12 by decide)), Q.map_some]
theorem law_paths (hk : k < 5) {P : List (List Nat)} (g : E19.g [namesD (namesOf k j), nearD ad] = some (waysD (namesOf k j) P)) (h1 : S 1 = some (.fr (.int (k : Nat)))) (h14 : S 14 = some (.fr (.lst ((texts j).map .str)))) (h19 : S 19 = some (.fr (nearD ad))) : exS nm fn FT27 sFlaw true (n + 20) Sl1 S = some (.next, S.put 26 (.fr (waysD (namesOf k j) P))) := by
 have r1 := Q.rho S 1 _ h1
 have r19 := Q.rho S 19 _ h19
 have x13 : E13.exact = true := rfl
 simp only [Sl1, Q.asg, Q.call, Q.cons, Q.nil, Q.var, r19]
 rw [Q.lc0 (d := fun i => .str (nameAt k ((j + i) % 12))) (List.range 5) (by simp only [klaw, Bool.and_self]) (names_src h14 _) (by decide) fun i _ => ?_]
 ·have e : D.lst ((namesOf k j).map .str) = namesD (namesOf k j) := rfl
  simp only [names_D, e, Q.d_fr, Q.o_fr, ft27, klaw, Bool.true_or, Bool.and_self, List.map_cons, List.map_nil, List.length_cons, List.length_nil, Nat.zero_add, Nat.reduceAdd, Nat.reduceLT, and_self, decide_true, if_true, g, Q.map_some, Q.unt_cons, Q.unt_nil, Bool.not_false, Bool.not_true, Q.itV_ff, Q.sw_call]
 ·simp only [Q.call, Q.cons, Q.nil, Q.var, Q.rx_i, Q.rx_k, Nat.reduceBEq, klaw, r1, Q.d_fr, Q.o_fr, ft27, Q.itV_s, x13, Bool.or_true, Bool.and_self, List.map_cons, List.map_nil, List.length_cons, List.length_nil, Nat.zero_add, Nat.reduceAdd, Nat.reduceLT, and_self, decide_true, if_true, g_written hk (Nat.mod_lt (j + i) (show 0 < 12 by decide)), Q.map_some]
end
section
variable {ns : List Str} (N : Ns ns) {P : List (List Nat)} {ad : Nat → Nat → Bool} {x : Int} {S : Sta} {n : Nat} (pP : P.Perm (sub ad [0]))
include N pP
theorem law_same (h26 : S 26 = some (.fr (waysD ns P))) (h19 : S 19 = some (.fr (nearD ad))) (h35 : S 35 = some (.fr (namesD ns))) : exS nm fn FT27 sFlaw true (n + 20) Sl3 S = some (.next, S) := by
 have r19 := Q.rho S 19 _ h19
 have r35 := Q.rho S 35 _ h35
 have e : ∀ l : List (List Nat), l.map (strD ns) = (l.map (key ns)).map .str := fun l => by rw [List.map_map]; rfl
 have r26 : rhoOf S 26 = some (.lst ((P.map (key ns)).map .str), false) := by rw [← e]; exact Q.rho S 26 _ h26
 have l2 : (sub ad [0]).length ≤ 65 := sub_len
 have l1 : P.length ≤ 65 := Nat.le_trans (Nat.le_of_eq pP.length_eq) l2
 have d1 := sort_D (xs := P.map (key ns)) (by rw [List.length_map]; omega)
 have d2 := sort_D (xs := (sub ad [0]).map (key ns)) (by rw [List.length_map]; omega)
 rw [← sort_congr (pP.map (key ns))] at d2
 have gw : E18.g [.lst [.int 0], nearD ad, namesD ns] = some (.lst (((sub ad [0]).map (key ns)).map .str)) := by rw [← e]; exact g_ways N
 have sn := same_ne (xs := sortS (P.map (key ns))) (by rw [(sortS_perm _).length_eq, List.length_map]; omega)
 simp only [Sl3, Q.sif, Q.tcmp, Q.bi, Q.cons, Q.nil, Q.var, r26, r19, r35, Q.call, Q.list, Q.int, ft27, klaw, Q.d_fr, Q.o_fr, Bool.true_or, Bool.and_self, List.map_cons, List.map_nil, List.length_cons, List.length_nil, Nat.zero_add, Nat.reduceAdd, Nat.reduceLT, Nat.reduceLeDiff, and_self, decide_true, if_true, d1, d2, gw, Q.map_some, Q.unt_cons, Q.unt_nil, Bool.not_false, Bool.not_true, Q.itV_ff, sn, Q.bnil]
theorem law_fold (hx : x.natAbs < 1000) (i0 : itemD (waysD ns P) (.int 0) = some (strD ns [0])) (h26 : S 26 = some (.fr (waysD ns P))) (h12 : S 12 = some (.fr (.int x))) : exS nm fn FT27 sFlaw true (n + 20) Sl4 S = some (.next, (S.put 33 (.fr (.int (WAp ad x [0]).1))).put 31 (.fr (.int (WAp ad x [0]).2))) := by
 have r26 := Q.rho S 26 _ h26
 have r12 := Q.rho S 12 _ h12
 simp only [Sl4, Q.unp, Q.call, Q.cons, Q.nil, Q.var, r26, r12, ft27, klaw, Q.d_fr, Q.o_fr, Bool.true_or, Bool.and_self, List.map_cons, List.map_nil, List.length_cons, List.length_nil, Nat.zero_add, Nat.reduceAdd, Nat.reduceLT, and_self, decide_true, if_true, g_folders N hx pP i0, Q.map_some, Q.unt_cons, Q.unt_nil, Bool.not_false, Bool.not_true, Q.itV_ff, Q.nt_call, List.all_cons, List.all_nil, List.nodup_cons, List.mem_cons, List.not_mem_nil, or_false, Nat.reduceEqDiff, not_false_eq_true, List.nodup_nil, Q.pm_cons, Q.pm_nil]
theorem law_ends (h26 : S 26 = some (.fr (waysD ns P))) : exS nm fn FT27 sFlaw true (n + 20) Sl6 S = some (.next, S.put 36 (.fr (.lst ((P.map fun p => nmS ns (p.headD 0)).map .str)))) := by
 have r26 := Q.rho S 26 _ h26
 have x3 : E3.exact = true := rfl
 have l1 : P.length ≤ 65 := Nat.le_trans (Nat.le_of_eq pP.length_eq) sub_len
 have l2 : (P.map (strD ns)).length ≤ 100000 := by rw [List.length_map]; omega
 simp only [Sl6, Q.asg]
 rw [Q.lc0 (d := fun p => .str (nmS ns (p.headD 0))) (g := strD ns) (tn := false) P (by simp only [klaw, Bool.and_self]) ?_ (Nat.le_trans l1 (by decide)) fun p hp => ?_]
 ·have e : P.map (fun p => D.str (nmS ns (p.headD 0))) = (P.map fun p => nmS ns (p.headD 0)).map .str := by rw [List.map_map]; rfl
  simp only [e, klaw, Q.swl, Bool.and_self, if_true]
 ·simp only [Q.svar, Q.var, r26, Q.d_fr, Q.o_fr, waysD, Q.sr_l, listLine, l2, if_true]
 ·have w : Vl p := dfs_vl 4 vl0 (pP.mem_iff.mp hp)
  have gb : E3.g [.str (key ns p)] = some (.str (nmS ns (p.headD 0))) := by
   rw [g_basename _ (Nat.le_trans (key_len N w) (by decide))]
   cases p with
   | nil => exact absurd rfl w.ne
   | cons v r => rw [key_base N (w.lt v List.mem_cons_self)]; rfl
  simp only [Q.call, Q.cons, Q.nil, Q.var, Q.rx_i, klaw, strD, ft27, Q.itV_s, x3, Bool.or_true, Bool.and_self, List.map_cons, List.map_nil, List.length_cons, List.length_nil, Nat.zero_add, Nat.reduceLT, and_self, decide_true, if_true, gb, Q.map_some]
noncomputable def endsL (ns : List Str) (P : List (List Nat)) : List Nat := (List.range 5).filter fun k => (P.map fun p => nmS ns (p.headD 0)).any fun y => y == nmS ns k
theorem mem_ends (k : Nat) : k ∈ endsL ns P ↔ En ad 4 [1, 2, 3, 4] 0 k := by
 have h := dfs_end (ad := ad) 4 (p := [0]) (k := k)
 rw [show re [0] = [1, 2, 3, 4] from rfl] at h
 refine Iff.trans ?_ h
 unfold endsL
 rw [List.mem_filter, List.mem_range, List.any_map, List.any_eq_true]
 have h5 : ∀ p ∈ P, p.headD 0 < 5 := fun p hp => by
  have w : Vl p := dfs_vl 4 vl0 (pP.mem_iff.mp hp)
  cases p with
  | nil => exact absurd rfl w.ne
  | cons v r => exact w.lt v List.mem_cons_self
 constructor
 ·rintro ⟨hk, p, hp, e⟩
  exact ⟨p, pP.mem_iff.mp hp, nmS_inj N (h5 p hp) hk (beq_iff_eq.mp e)⟩
 ·rintro ⟨p, hp, rfl⟩
  exact ⟨h5 p (pP.mem_iff.mpr hp), p, pP.mem_iff.mpr hp, beq_self_eq_true _⟩
omit pP in
theorem law_count (hx : x.natAbs < 1000) (h19 : S 19 = some (.fr (nearD ad))) (h12 : S 12 = some (.fr (.int x))) (h35 : S 35 = some (.fr (namesD ns))) (h36 : S 36 = some (.fr (.lst ((P.map fun p => nmS ns (p.headD 0)).map .str)))) : exS nm fn FT27 sFlaw true (n + 20) Sl7 S = some (.next, S.put 30 (.fr (.int (M ad x (endsL ns P))))) := by
 have r19 := Q.rho S 19 _ h19
 have r12 := Q.rho S 12 _ h12
 have r35 := Q.rho S 35 _ h35
 have r36 := Q.rho S 36 _ h36
 have gp : E25.g [.lst (intsD (endsL ns P)), nearD ad, .int x] = some (.int (M ad x (endsL ns P))) := g_paired hx (List.length_filter_le _ _) fun k hk => List.mem_range.mp (List.mem_filter.mp hk).1
 simp only [Sl7, Q.asg, Q.call, Q.cons, Q.nil, Q.var, r19, r12]
 rw [Q.lc1 (d := fun m : Nat => D.int (m : Nat)) (g := fun m : Nat => D.int (m : Nat)) (p := fun k => (P.map fun p => nmS ns (p.headD 0)).any fun y => y == nmS ns k) (tn := false) (List.range 5) (by simp only [klaw, Bool.and_self]) ?_ (by decide) (fun k hk => ?_) fun k _ => by simp only [Q.var, Q.rx_i, Q.itV_i]]
 ·have e : ((List.range 5).filter fun k => (P.map fun p => nmS ns (p.headD 0)).any fun y => y == nmS ns k).map (fun m : Nat => D.int (m : Nat)) = intsD (endsL ns P) := rfl
  simp only [e, Q.d_fr, Q.o_fr, ft27, klaw, Bool.true_or, Bool.and_self, List.map_cons, List.map_nil, List.length_cons, List.length_nil, Nat.zero_add, Nat.reduceAdd, Nat.reduceLT, and_self, decide_true, if_true, gp, Q.map_some, Q.unt_cons, Q.unt_nil, Bool.not_false, Bool.not_true, Q.itV_ff, Q.sw_call]
 ·simp only [Q.srange, Q.cons, Q.nil, Q.int, Q.rg1, klaw, Q.na5, Bool.true_and, Nat.reduceLT, decide_true, if_true]
  rfl
 ·simp only [Q.icons, Q.tcmp, Q.item, Q.var, Q.rx_i, Q.rx_k, Nat.reduceBEq, klaw, r35, r36, Q.d_fr, Q.o_fr, Q.itV_i, name_at N (List.mem_range.mp hk), Q.map_some, Q.itV_s, Q.isIn, Q.inSL, Q.strsOf_map, Q.inil]
  cases ((P.map fun p => nmS ns (p.headD 0)).any fun y => y == nmS ns k) <;> rfl
omit N pP in
theorem law_ring {W A : Int} (hx : x.natAbs < 1000) (bW : W.natAbs < 2 ^ 4096) (bA : A.natAbs < 2 ^ 4096) (e : W * M ad x [1, 2, 3, 4] = A * M ad x [0, 1, 2, 3, 4]) (h19 : S 19 = some (.fr (nearD ad))) (h12 : S 12 = some (.fr (.int x))) (h33 : S 33 = some (.fr (.int W))) (h31 : S 31 = some (.fr (.int A))) : exS nm fn FT27 sFlaw true (n + 20) Sl5 S = some (.next, S) := by
 have r19 := Q.rho S 19 _ h19
 have r12 := Q.rho S 12 _ h12
 have r33 := Q.rho S 33 _ h33
 have r31 := Q.rho S 31 _ h31
 have g1 : E25.g [.lst [.int 1, .int 2, .int 3, .int 4], nearD ad, .int x] = some (.int (M ad x [1, 2, 3, 4])) := g_paired (l := [1, 2, 3, 4]) hx (by decide) (by decide)
 have g2 : E25.g [.lst [.int 0, .int 1, .int 2, .int 3, .int 4], nearD ad, .int x] = some (.int (M ad x [0, 1, 2, 3, 4])) := g_paired (l := [0, 1, 2, 3, 4]) hx (by decide) (by decide)
 have b1 : W.natAbs < 2 ^ 4096 ∧ (M ad x [1, 2, 3, 4]).natAbs < 2 ^ 4096 := ⟨bW, Nat.lt_of_le_of_lt (M_bd hx 5 _ (by decide) (by decide)) (by decide +kernel)⟩
 have b2 : A.natAbs < 2 ^ 4096 ∧ (M ad x [0, 1, 2, 3, 4]).natAbs < 2 ^ 4096 := ⟨bA, Nat.lt_of_le_of_lt (M_bd hx 5 _ (by decide) (by decide)) (by decide +kernel)⟩
 have en : ∀ a : Int, (a != a) = false := fun a => bne_self_eq_false a
 simp only [Sl5, Q.sif, Q.tcmp, Q.bin, Q.var, r33, r31, r19, r12, Q.call, Q.cons, Q.nil, Q.list, Q.int, ft27, klaw, Q.d_fr, Q.o_fr, Bool.true_or, Bool.and_self, List.map_cons, List.map_nil, List.length_cons, List.length_nil, Nat.zero_add, Nat.reduceAdd, Nat.reduceLT, Nat.reduceLeDiff, and_self, decide_true, if_true, Q.unt_cons, Q.unt_nil, Bool.not_false, Bool.not_true, g1, g2, Q.map_some, Q.itV_ff, Q.mulI, b1, b2, e, Q.neI, en, Q.bnil, Bool.or_false]
omit N pP in
theorem law_tail {W c Z : Int} (e : W = c * Z) (h30 : S 30 = some (.fr (.int c))) (h33 : S 33 = some (.fr (.int W))) : exS nm fn FT27 sFlaw true (n + 20) Sl8 S = some (.ret (.bool true), S) := by
 have r30 := Q.rho S 30 _ h30
 have r33 := Q.rho S 33 _ h33
 subst e
 by_cases z : c = 0
 ·subst z
  simp only [Sl8, Q.sret, Q.ite, Q.tcmp, Q.cmp, Q.var, Q.int, r30, r33, Q.d_fr, Q.o_fr, Q.eqI, beq_self_eq_true, Int.zero_mul, Q.map_some]
 ·have e1 : (c == 0) = false := beq_false_of_ne z
  have e2 : (c * Z).fmod c = 0 := Int.mul_fmod_right _ _
  simp only [Sl8, Q.sret, Q.ite, Q.tcmp, Q.cmp, Q.bin, Q.var, Q.int, r30, r33, Q.d_fr, Q.o_fr, Q.eqI, e1, Q.modI, ne_eq, z, not_false_eq_true, if_true, Q.map_some, e2, Bool.or_false, Q.itV_ff, beq_self_eq_true]
end
theorem g_law (zs : List Int) (hz : zs.length ≤ 63) : E27.g [.lst (zs.map .int)] = some (.bool true) := by
 obtain ⟨k, j, ad, x, hk, hj, sy, hx, g0⟩ := g_drawn zs hz
 have N := ns_of hk hj
 obtain ⟨B, pP, gt⟩ := g_tree N (ad := ad)
 obtain ⟨D, O, _⟩ := Od.of (ns := namesOf k j) pP
 have i0 : itemD (waysD (namesOf k j) ([0] :: B)) (.int 0) = some (strD (namesOf k j) [0]) := by
  have l1 : ([0] :: B).length ≤ 65 := Nat.le_trans (Nat.le_of_eq pP.length_eq) sub_len
  unfold waysD
  rw [Q.itL, List.length_map, show (0 : Int) = ((0 : Nat) : Int) from rfl, Q.idxN _ _ (by simp), Q.bind_some, if_pos (by unfold listLine; omega)]; rfl
 have bW := WAp_bd O (x := x) hx O.zero
 have ge := godsil_end sy (x := x) (S := [1, 2, 3, 4]) (v := 0) (E := endsL (namesOf k j) ([0] :: B)) (by decide) (List.nodup_range.sublist List.filter_sublist) fun m => mem_ends N pP m
 obtain ⟨e1, Z, e2⟩ := ge
 have wa : WAp ad x [0] = WA ad x [1, 2, 3, 4].length [1, 2, 3, 4] 0 := rfl
 rw [← wa] at e1 e2
 generalize ([0] :: B) = P at pP gt i0 e1 e2
 generalize hS : staOf pFlaw [.lst (zs.map .int)] = S
 have r9 : rhoOf S 9 = some (.lst (zs.map .int), false) := by rw [← hS]; rfl
 have s0 : exS nm fn FT27 sFlaw true 199 Sl0 S = some (.next, (((S.put 1 (.fr (.int (k : Nat)))).put 14 (.fr (.lst ((texts j).map .str)))).put 19 (.fr (nearD ad))).put 12 (.fr (.int x))) := by
  simp only [Sl0, Q.unp, Q.call, Q.cons, Q.nil, Q.var, r9, ft27, klaw, Bool.true_or, Bool.and_self, List.map_cons, List.map_nil, List.length_cons, List.length_nil, Nat.zero_add, Nat.reduceLT, and_self, decide_true, if_true, g0, Q.map_some, Q.unt_cons, Q.unt_nil, Bool.not_false, Bool.not_true, Q.itV_ff, Q.nt_call, List.all_cons, List.all_nil, List.nodup_cons, List.mem_cons, List.not_mem_nil, Nat.reduceEqDiff, not_false_eq_true, List.nodup_nil, Q.pm_cons, Q.pm_nil, or_self]
 generalize hS1 : (((S.put 1 (.fr (.int (k : Nat)))).put 14 (.fr (.lst ((texts j).map .str)))).put 19 (.fr (nearD ad))).put 12 (.fr (.int x)) = S1 at s0
 have q1 : S1 1 = some (.fr (.int (k : Nat))) := by rw [← hS1]; rfl
 have q14 : S1 14 = some (.fr (.lst ((texts j).map .str))) := by rw [← hS1]; rfl
 have q19 : S1 19 = some (.fr (nearD ad)) := by rw [← hS1]; rfl
 have q12 : S1 12 = some (.fr (.int x)) := by rw [← hS1]; rfl
 have s1 := law_paths (n := 178) hk gt q1 q14 q19
 have s2 := law_told (n := 177) (S := S1.put 26 (.fr (waysD (namesOf k j) P))) hk q1 q14
 generalize hS3 : (S1.put 26 (.fr (waysD (namesOf k j) P))).put 35 (.fr (namesD (namesOf k j))) = S3 at s2
 have p26 : S3 26 = some (.fr (waysD (namesOf k j) P)) := by rw [← hS3]; rfl
 have p35 : S3 35 = some (.fr (namesD (namesOf k j))) := by rw [← hS3]; rfl
 have p19 : S3 19 = some (.fr (nearD ad)) := by rw [← hS3]; exact q19
 have p12 : S3 12 = some (.fr (.int x)) := by rw [← hS3]; exact q12
 have s3 := law_same N (n := 176) pP p26 p19 p35
 have s4 := law_fold N (n := 175) pP hx i0 p26 p12
 have s5 := law_ring (n := 174) (S := (S3.put 33 (.fr (.int (WAp ad x [0]).1))).put 31 (.fr (.int (WAp ad x [0]).2))) hx bW.1 bW.2 e1 p19 p12 rfl rfl
 have s6 := law_ends N (n := 173) (S := (S3.put 33 (.fr (.int (WAp ad x [0]).1))).put 31 (.fr (.int (WAp ad x [0]).2))) pP p26
 have s7 := law_count N (n := 172) (P := P) (S := ((S3.put 33 (.fr (.int (WAp ad x [0]).1))).put 31 (.fr (.int (WAp ad x [0]).2))).put 36 (.fr (.lst ((P.map fun p => nmS (namesOf k j) (p.headD 0)).map .str)))) hx p19 p12 p35 rfl
 have s8 := law_tail (n := 171) (S := (((S3.put 33 (.fr (.int (WAp ad x [0]).1))).put 31 (.fr (.int (WAp ad x [0]).2))).put 36 (.fr (.lst ((P.map fun p => nmS (namesOf k j) (p.headD 0)).map .str)))).put 30 (.fr (.int (M ad x (endsL (namesOf k j) P))))) e2 rfl rfl
 generalize (((S3.put 33 (.fr (.int (WAp ad x [0]).1))).put 31 (.fr (.int (WAp ad x [0]).2))).put 36 (.fr (.lst ((P.map fun p => nmS (namesOf k j) (p.headD 0)).map .str)))).put 30 (.fr (.int (M ad x (endsL (namesOf k j) P)))) = S8 at s7 s8
 rw [e27_g]
 refine Q.gOf_ex (ds' := [.lst (zs.map .int)]) rfl rfl ⟨S8, ?_⟩
 rw [hS]
 show exB nm fn FT27 sFlaw true 200 bFlaw S = _
 simp only [bFlaw, Q.bcons, s0, s1, s2, s3, s4, s5, s6, s7, s8]
end L1
end
section
noncomputable def bnames : List Str := [Str.ofString "len", Str.ofString "sorted", Str.ofString "min", Str.ofString "divmod", Str.ofString "range", Str.ofString "enumerate", Str.ofString "type", Str.ofString "issubclass", Str.ofString "isinstance", Str.ofString "str", Str.ofString "bytes", Str.ofString "IndexError"]
section
variable {q : Program} {loose : List Str} {mean : ExcName → Option Value} {mg mb : Str → Option Value} {h : Heap}
theorem free_of (T : Top q loose mean mg mb h) (e : (bnames.all fun x => !(startupNames.contains x) && !(loose.contains x) && !(((recsOf q).map (·.name)).contains x) && !(((litsOf q).map (·.1)).contains x) && !(((clssOf q loose).map (·.name)).contains x)) = true) : ∀ x ∈ bnames, mg x = none := fun x hx => by
 have := List.all_eq_true.mp e x hx
 simp only [Bool.and_eq_true, Bool.not_eq_true', ← Bool.not_eq_true, List.contains_iff_mem] at this
 exact T.free x this.1.1.1.1 this.1.1.1.2 this.1.1.2 this.1.2 this.2
theorem boot_of (T : Top q loose mean mg mb h) : ∀ x ∈ bnames, mb x = bootBuiltins x := fun x hx => by
 refine T.builtins x fun e => ?_
 subst e
 exact absurd hx (by decide +kernel)
theorem has_of (T : Top q loose mean mg mb h) {pw : Program} {fns : List Str} (e : fns.map (fun f => (recsOf q).find? fun d => d.name == f) = fns.map fun f => some (recAt pw f)) : ∀ f ∈ fns, HasFn h mg (recAt pw f) := fun f hf => by
 obtain ⟨i, hi, rfl⟩ := List.getElem_of_mem hf
 have e := congrArg (fun l => l[i]?) e
 simp only [List.getElem?_map, List.getElem?_eq_getElem hi, Option.map_some] at e
 have e := Option.some.inj e
 exact T.fn _ (List.mem_of_find?_eq_some e)
end
theorem boots : bootBuiltins (Str.ofString "len") = some (.builtin "len") ∧ bootBuiltins (Str.ofString "sorted") = some (.builtin "sorted") ∧ bootBuiltins (Str.ofString "min") = some (.builtin "min") ∧ bootBuiltins (Str.ofString "divmod") = some (.builtin "divmod") ∧ bootBuiltins (Str.ofString "range") = some (.type "range") ∧
  bootBuiltins (Str.ofString "enumerate") = some (.type "enumerate") ∧ bootBuiltins (Str.ofString "type") = some (.type "type") ∧ bootBuiltins (Str.ofString "issubclass") = some (.builtin "issubclass") ∧ bootBuiltins (Str.ofString "isinstance") = some (.builtin "isinstance") ∧ bootBuiltins (Str.ofString "str") = some (.type "str") ∧ bootBuiltins (Str.ofString "bytes") = some (.type "bytes") ∧ bootBuiltins (Str.ofString "IndexError") = some (.type "IndexError") := by
 refine ⟨?_, ?_, ?_, ?_, ?_, ?_, ?_, ?_, ?_, ?_, ?_, ?_⟩ <;> decide +kernel
theorem glb_of {nm fn : Nat → Str} {base : Heap} {mg mb : Str → Option Value} (nmd : ∀ i, (nm i == "__debug__") = false ∧ (nm i == "__classdict__") = false) (inj : ∀ i j, nm i = nm j → i = j) (fnd : ∀ f, (fn f == "__debug__") = false)
  (hg : base.Ns mainGlobals mg) (hb : base.Ns builtinsNs mb) (lim : base.NoLimit) (free : ∀ x ∈ bnames, mg x = none) (boot : ∀ x ∈ bnames, mb x = bootBuiltins x) :
  Glb nm fn base mg mb ∧ mg "IndexError" = none ∧ mb "IndexError" = some (.type "IndexError") := by
 obtain ⟨b1, b2, b3, b4, b5, b6, b7, b8, b9, b10, b11, b12⟩ := boots
 have key : ∀ x v, x ∈ bnames → bootBuiltins x = some v → mg x = none ∧ mb x = some v := fun x v hx hv => ⟨free x hx, (boot x hx).trans hv⟩
 refine ⟨⟨nmd, inj, fnd, hg, hb, fun b => ?_, key _ _ (by decide +kernel) b8, key _ _ (by decide +kernel) b9, key _ _ (by decide +kernel) b10, key _ _ (by decide +kernel) b11, lim⟩, key _ _ (by decide +kernel) b12⟩
 cases b with
 | len => exact key _ _ (by decide +kernel) b1
 | sorted => exact key _ _ (by decide +kernel) b2
 | min => exact key _ _ (by decide +kernel) b3
 | range => exact key _ _ (by decide +kernel) b5
 | enumerate => exact key _ _ (by decide +kernel) b6
 | type => exact key _ _ (by decide +kernel) b7
theorem law_call {prog : Program} {w : World} {s : Shared} {fe : FE} {fa a : Addr} {zs : List Int} {vs : List Value} {P : Params} {mg : Str → Option Value}
  (c : Con prog w s.heap fe fa) (hneed : fe.need ≤ 30) (hg : fe.g [.lst (zs.map .int)] = some (.bool true)) (hm : s.heap.Ns mainGlobals mg)
  (hw : Well P s.heap (.ref a) (ofPy (.list (zs.map .int)))) (hl : s.heap.IsList a vs.toArray) (hi : IntsAre vs zs) :
  Ok (model prog w) callerA (call (.ref fa) [.ref a]) s (fun v h' => v = .bool true ∧ ∀ b o, s.heap.get? b = some o → h'.get? b = some o) := by
 have hobj : s.heap.get? a = some (sq "list" vs 0) := by
  obtain ⟨o, ho, _, n, hd⟩ := hl
  cases hw with
  | list ha wa =>
   rw [ha] at ho; cases ho
   obtain ⟨e, _⟩ := Data.seq.inj hd
   obtain rfl := List.toArray_inj e
   exact ha
 have low : ∃ b o, sysModules ≤ b ∧ s.heap.get? b = some o := by
  obtain ⟨o, _, _, ho, _⟩ := hm
  exact ⟨_, _, by decide, ho⟩
 have cx : Cx callerA [] s.heap s.heap fe.need := ⟨rfl, rfl, fun _ _ e => e, trivial, by have : callerA.depth = 301 := rfl; omega, by have : callerA.units = 4 := rfl; have : cLine = 9900 := rfl; omega, low⟩
 refine (c callerA [] s cx (Nat.zero_le _) _ _ hg (fun _ => False) [.ref a] (fun a q => by cases q) (fun a q => q.elim) (.cons (.lst id hobj (RL.of_ints hi)) .nil)).mono fun v h' q => ?_
 obtain ⟨k, r⟩ := q
 cases r
 exact ⟨rfl, fun b o e => k.out b o (fun z => by cases z.2) e⟩
end
section
namespace L1
section
variable {w : World} {base : Heap} {mg mb : Str → Option Value}
theorem sld_has {fa : Addr} {o : Obj} {pm code doc : Value} (G : Glb nm fn base mg mb) (ie : mg "IndexError" = none ∧ mb "IndexError" = some (.type "IndexError")) (ho : base.get? fa = some o) (hod : o.data = .func (docDef (recAt pw "sorted_list_difference").name (recAt pw "sorted_list_difference").params (recAt pw "sorted_list_difference").body (recAt pw "sorted_list_difference").scope pm code doc)) (hcd : base.CodeRec code (recAt pw "sorted_list_difference").name) : Con pw w base sldFE fa :=
 sld_con (d := recAt pw "sorted_list_difference") G ie ho hod hcd (by rfl) rfl (by decide +kernel) (by decide +kernel) rfl rfl (by decide +kernel) (by decide +kernel) fun pm code doc us hu => by rcases us with _ | ⟨a, _ | ⟨b, _ | ⟨c, r⟩⟩⟩ <;> first | rfl | (simp at hu)
set_option maxHeartbeats 4000000 in
theorem cons_all (G : Glb nm fn base mg mb) (ie : mg "IndexError" = none ∧ mb "IndexError" = some (.type "IndexError")) (H : ∀ f ∈ fns, HasFn base mg (recAt pw f)) : Cons pw w fn base mg FT28 := by
 have c0 : Cons pw w fn base mg FT0 := Cons.nil
 have c1 : Cons pw w fn base mg FT1 := c0.fd G (H (Str.ofString "fspath") (by decide +kernel)) dFfspath (by rfl) tFfspath nFfspath.2
 have c2 : Cons pw w fn base mg FT2 := c1.fd G (H (Str.ofString "_get_sep") (by decide +kernel)) dF_get_sep (by rfl) tF_get_sep nF_get_sep.2
 have c3 : Cons pw w fn base mg FT3 := c2.fd G (H (Str.ofString "join") (by decide +kernel)) dFjoin (by rfl) tFjoin nFjoin.2
 have c4 : Cons pw w fn base mg FT4 := c3.fd G (H (Str.ofString "basename") (by decide +kernel)) dFbasename (by rfl) tFbasename nFbasename.2
 have c5 : Cons pw w fn base mg FT5 := c4.fd G (H (Str.ofString "dirname") (by decide +kernel)) dFdirname (by rfl) tFdirname nFdirname.2
 have c6 : Cons pw w fn base mg FT6 := by
  obtain ⟨a, o, pm, code, doc, h1, h2, h3, h4⟩ := H (Str.ofString "sorted_list_difference") (by decide +kernel)
  exact c5.put (by rfl) ⟨a, o, _, h1, h2, h3, sld_has G ie h2 h3 h4⟩
 have c7 : Cons pw w fn base mg FT7 := c6.fd G (H (Str.ofString "_escape_cdata") (by decide +kernel)) dF_escape_cdata (by rfl) tF_escape_cdata nF_escape_cdata.2
 have c8 : Cons pw w fn base mg FT8 := c7.fd G (H (Str.ofString "_escape_attrib") (by decide +kernel)) dF_escape_attrib (by rfl) tF_escape_attrib nF_escape_attrib.2
 have c9 : Cons pw w fn base mg FT9 := c8.fd G (H (Str.ofString "_escape_attrib_html") (by decide +kernel)) dF_escape_attrib_html (by rfl) tF_escape_attrib_html nF_escape_attrib_html.2
 have c10 : Cons pw w fn base mg FT10 := c9.fd G (H (Str.ofString "_escape_cdata_c14n") (by decide +kernel)) dF_escape_cdata_c14n (by rfl) tF_escape_cdata_c14n nF_escape_cdata_c14n.2
 have c11 : Cons pw w fn base mg FT11 := c10.fd G (H (Str.ofString "_escape_attrib_c14n") (by decide +kernel)) dF_escape_attrib_c14n (by rfl) tF_escape_attrib_c14n nF_escape_attrib_c14n.2
 have c12 : Cons pw w fn base mg FT12 := c11.fd G (H (Str.ofString "_law_drawn") (by decide +kernel)) dF_law_drawn (by rfl) tF_law_drawn nF_law_drawn.2
 have c13 : Cons pw w fn base mg FT13 := c12.fd G (H (Str.ofString "_law_told") (by decide +kernel)) dF_law_told (by rfl) tF_law_told nF_law_told.2
 have c14 : Cons pw w fn base mg FT14 := c13.fd G (H (Str.ofString "_law_written") (by decide +kernel)) dF_law_written (by rfl) tF_law_written nF_law_written.2
 have c15 : Cons pw w fn base mg FT15 := c14.fd G (H (Str.ofString "_law_ways") (by decide +kernel)) dF_law_ways0 (by rfl) tF_law_ways0 nF_law_ways0.2
 have c16 : Cons pw w fn base mg FT16 := c15.fd G (H (Str.ofString "_law_ways") (by decide +kernel)) dF_law_ways1 (by rfl) tF_law_ways1 nF_law_ways0.2
 have c17 : Cons pw w fn base mg FT17 := c16.fd G (H (Str.ofString "_law_ways") (by decide +kernel)) dF_law_ways2 (by rfl) tF_law_ways2 nF_law_ways0.2
 have c18 : Cons pw w fn base mg FT18 := c17.fd G (H (Str.ofString "_law_ways") (by decide +kernel)) dF_law_ways3 (by rfl) tF_law_ways3 nF_law_ways0.2
 have c19 : Cons pw w fn base mg FT19 := c18.fd G (H (Str.ofString "_law_ways") (by decide +kernel)) dF_law_ways4 (by rfl) tF_law_ways4 nF_law_ways0.2
 have c20 : Cons pw w fn base mg FT20 := c19.fd G (H (Str.ofString "_law_tree") (by decide +kernel)) dF_law_tree (by rfl) tF_law_tree nF_law_tree.2
 have c21 : Cons pw w fn base mg FT21 := c20.fd G (H (Str.ofString "_law_paired") (by decide +kernel)) dF_law_paired0 (by rfl) tF_law_paired0 nF_law_paired0.2
 have c22 : Cons pw w fn base mg FT22 := c21.fd G (H (Str.ofString "_law_paired") (by decide +kernel)) dF_law_paired1 (by rfl) tF_law_paired1 nF_law_paired0.2
 have c23 : Cons pw w fn base mg FT23 := c22.fd G (H (Str.ofString "_law_paired") (by decide +kernel)) dF_law_paired2 (by rfl) tF_law_paired2 nF_law_paired0.2
 have c24 : Cons pw w fn base mg FT24 := c23.fd G (H (Str.ofString "_law_paired") (by decide +kernel)) dF_law_paired3 (by rfl) tF_law_paired3 nF_law_paired0.2
 have c25 : Cons pw w fn base mg FT25 := c24.fd G (H (Str.ofString "_law_paired") (by decide +kernel)) dF_law_paired4 (by rfl) tF_law_paired4 nF_law_paired0.2
 have c26 : Cons pw w fn base mg FT26 := c25.fd G (H (Str.ofString "_law_paired") (by decide +kernel)) dF_law_paired5 (by rfl) tF_law_paired5 nF_law_paired0.2
 have c27 : Cons pw w fn base mg FT27 := c26.fd G (H (Str.ofString "_law_folders") (by decide +kernel)) dF_law_folders (by rfl) tF_law_folders nF_law_folders.2
 have c28 : Cons pw w fn base mg FT28 := c27.fd G (H (Str.ofString "law") (by decide +kernel)) dFlaw (by rfl) tFlaw nFlaw.2
 exact c28
theorem law_con (G : Glb nm fn base mg mb) (ie : mg "IndexError" = none ∧ mb "IndexError" = some (.type "IndexError")) (H : ∀ f ∈ fns, HasFn base mg (recAt pw f)) : ∃ fa fe, FT28[27]? = some fe ∧ mg "law" = some (.ref fa) ∧ fe.need ≤ 28 ∧ Con pw w base fe fa := by
 have c := cons_all (w := w) G ie H
 obtain ⟨fe, e⟩ : ∃ fe, FT28[27]? = some fe := ⟨_, rfl⟩
 obtain ⟨fa, o, fd, h1, h2, h3, h4, h5⟩ := c 27 fe e
 exact ⟨fa, fe, e, h1, h4, h5⟩
end
end L1
end
section
namespace L1
theorem law_end1 {w : World} {s₁ : Shared} {mg mb : Str → Option Value} {fa a : Addr} {zs : List Int} {vs : List Value} {P : Params} {q : Program} {loose : List Str} {mean : ExcName → Option Value} (T : Top q loose mean mg mb s₁.heap)
  (e1 : (bnames.all fun x => !(startupNames.contains x) && !(loose.contains x) && !(((recsOf q).map (·.name)).contains x) && !(((litsOf q).map (·.1)).contains x) && !(((clssOf q loose).map (·.name)).contains x)) = true)
  (e2 : fns.map (fun f => (recsOf q).find? fun d => d.name == f) = fns.map fun f => some (recAt pw f)) (hmg : mg "law" = some (.ref fa)) (hz : ¬ (↑63 : Int) < ↑zs.length)
  (hw : Well P s₁.heap (.ref a) (ofPy (.list (zs.map .int)))) (hl : s₁.heap.IsList a vs.toArray) (hi : IntsAre vs zs) :
  Ok (model pw w) callerA (call (.ref fa) [.ref a]) s₁ (fun v h' => v = .bool true ∧ ∀ b o, s₁.heap.get? b = some o → h'.get? b = some o) := by
 obtain ⟨G, ie⟩ := glb_of (nm := nm) (fn := fn) nm_nmd nm_inj fn_fnd T.g T.b T.nolimit (free_of T e1) (boot_of T)
 obtain ⟨fa', fe, h1, h2, h3, h4⟩ := law_con (w := w) G ie (has_of T e2)
 rw [hmg] at h2; cases h2
 have he : FT28[27]? = some E27 := rfl
 rw [he] at h1; cases h1
 exact law_call h4 (by omega) (g_law zs (by omega)) T.g hw hl hi
end L1
end
end Mine
set_option maxRecDepth 100000 in
set_option maxHeartbeats 8000000 in
theorem PySem.Challenge.cw_rt0064_01_holds : PySem.Challenge.rw_rt0064_01.Holds := by
 w_on
 refine holds_law Mine.said fun said => ?_
 refine holds_open (q := Mine.view1) (loose := []) (Xt := fun s => xlAt Mine.view1 [] s && recOk (RowW.records PySem.Challenge.rw_rt0064_01.row.toRowW) s) (XP := XL Mine.view1 []) (Yf := Hook.obs Hook.none) (Ya := Hook.val Hook.none) (YP := Hook.says Hook.none) (N := 2 * 1261 + 100) (d := Mine.recA PySem.Challenge.pw_rt0064_01 "law") (kwd := []) ?hl (Hook.of Hook.none) (Hook.keeps Hook.none) (fun s e => xl_of s (Bool.and_eq_true_iff.mp e).1) XL.keeps (by kernel_rfl) (by kernel_rfl) (by kernel_rfl) (fun s e => recFacts_of (Bool.and_eq_true_iff.mp e).2) (by rfl) (by first | assumption | decide +kernel) (by decide +kernel) ⟨rfl, rfl, rfl, rfl, rfl, by decide +kernel⟩ ?hw ?hc
 case hw => exact ⟨[.list []], by decide +kernel, by decide +kernel⟩
 case hl => exact Mine.left
 intro w s₀ s₁ mg mb G Y fa o pm cd doc dV kV ho hd hcd hD hmg hg args vals as hpre hlay hrd hwl hlo
 clear hd hcd hD ho Y
 refine Ground.open G ?_
 intro T B D TE TW
 wrow_args hpre hlay hrd hwl hlo
 rename_i zs _ _ _ _ _ _ _ a vs _ hL _ hW _ hI _ hcond _
 have h := Mine.L1.law_end1 (w := w) T (by decide +kernel) (by kernel_rfl) hmg hcond hW hL hI
 refine wpAny_mono h (fun v s' q => ?_) fun _ _ q => q.elim
 obtain ⟨h', tk, rfl, rfl, k⟩ := q
 refine ⟨.inl ⟨.bool true, .bool true, [], rfl, fun cls => rfl, .bool true, ?_, fun _ => ⟨.nil, fun a h => by cases h⟩⟩, .of_keep k, rfl, .of_eq hg⟩
 exact postW_of (by wrow_shape) (by wtm_val) (by w_fin)
