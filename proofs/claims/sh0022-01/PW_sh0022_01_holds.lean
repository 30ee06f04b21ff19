import PyProof.Rows.All
import Wide.All
import OpenK.AllK
import Wide.FinOn
import PySem.Challenge.RW_sh0022_01
open PySem PySem.W PyProof.Rows PySem.Calls
set_option Elab.async false
set_option maxRecDepth 100000
set_option linter.unusedVariables false
set_option maxHeartbeats 8000000
set_option compiler.extract_closed false

namespace Mine

/-- a value bears a datum; the addresses of O are avoided -/
inductive RepG (O : List Addr) (h : Heap) : Bool → List Value → List PyData → Prop
  | nn : RepG O h false [.none] [.none]
  | bool (b) : RepG O h false [.bool b] [.bool b]
  | int (i t) : RepG O h false [.int i t] [.int i]
  | str (x t) : RepG O h false [.str x t] [.str x]
  | list {a n xs} (vs : List Value) : a ∉ O → h.get? a = some { cls := .type "list", data := .seq vs.toArray n } → RepG O h true vs xs → RepG O h false [.ref a] [.list xs]
  | tuple {a n xs} (vs : List Value) : a ∉ O → h.get? a = some { cls := .type "tuple", data := .seq vs.toArray n } → RepG O h true vs xs → RepG O h false [.ref a] [.tuple xs]
  | nil : RepG O h true [] []
  | cons {v vs d ds} : RepG O h false [v] [d] → RepG O h true vs ds → RepG O h true (v :: vs) (d :: ds)
noncomputable abbrev Rep (O : List Addr) (h : Heap) (v : Value) (d : PyData) : Prop := RepG O h false [v] [d]
noncomputable abbrev Reps (O : List Addr) (h : Heap) (vs : List Value) (ds : List PyData) : Prop := RepG O h true vs ds

theorem RepG.reads {O : List Addr} {h : Heap} {b : Bool} {vs : List Value} {ds : List PyData} (r : RepG O h b vs ds) :
    (b = true → ∃ as, ReadsAll h vs ds as) ∧ (b = false → ∀ v d, vs = [v] → ds = [d] → ∃ as, Reads h v d as) := by
  induction r with
  | nn => exact ⟨nofun, fun _ v d e1 e2 => by cases e1; cases e2; exact ⟨_, .none⟩⟩
  | bool b => exact ⟨nofun, fun _ v d e1 e2 => by cases e1; cases e2; exact ⟨_, .bool b⟩⟩
  | int i t => exact ⟨nofun, fun _ v d e1 e2 => by cases e1; cases e2; exact ⟨_, .int i t⟩⟩
  | str x t => exact ⟨nofun, fun _ v d e1 e2 => by cases e1; cases e2; exact ⟨_, .str x t⟩⟩
  | list vs hn ho _ ih => exact ⟨nofun, fun _ v d e1 e2 => by cases e1; cases e2; obtain ⟨as, q⟩ := ih.1 rfl; exact ⟨_, .list ho rfl rfl q⟩⟩
  | tuple vs hn ho _ ih => exact ⟨nofun, fun _ v d e1 e2 => by cases e1; cases e2; obtain ⟨as, q⟩ := ih.1 rfl; exact ⟨_, .tuple ho rfl rfl q⟩⟩
  | nil => exact ⟨fun _ => ⟨_, .nil⟩, nofun⟩
  | cons _ _ ih1 ih2 => exact ⟨fun _ => by obtain ⟨as, q⟩ := ih1.2 rfl _ _ rfl rfl; obtain ⟨bs, q'⟩ := ih2.1 rfl; exact ⟨_, .cons q q'⟩, nofun⟩
theorem Rep.reads {O : List Addr} {h : Heap} {v : Value} {d : PyData} (r : Rep O h v d) : ∃ as, Reads h v d as := (RepG.reads r).2 rfl v d rfl rfl

/-- the objects at the seqs stay: the bearing stays -/
theorem RepG.moved {O O' : List Addr} {h h' : Heap} {b : Bool} {vs : List Value} {ds : List PyData} (r : RepG O h b vs ds)
    (hk : ∀ a o xs n, a ∉ O → h.get? a = some o → o.data = .seq xs n → h'.get? a = some o ∧ a ∉ O') : RepG O' h' b vs ds := by
  induction r with
  | nn => exact .nn
  | bool b => exact .bool b
  | int i t => exact .int i t
  | str x t => exact .str x t
  | list vs hn ho _ ih => exact .list vs (hk _ _ _ _ hn ho rfl).2 (hk _ _ _ _ hn ho rfl).1 ih
  | tuple vs hn ho _ ih => exact .tuple vs (hk _ _ _ _ hn ho rfl).2 (hk _ _ _ _ hn ho rfl).1 ih
  | nil => exact .nil
  | cons _ _ ih1 ih2 => exact .cons ih1 ih2
theorem RepG.sub {O O' : List Addr} {h : Heap} {b : Bool} {vs : List Value} {ds : List PyData} (r : RepG O h b vs ds) (hs : ∀ a ∈ O', a ∈ O ∨ h.get? a = none) : RepG O' h b vs ds :=
  r.moved fun a o xs n ha ho _ => ⟨ho, fun q => (hs a q).elim ha fun e => by rw [e] at ho; cases ho⟩
theorem RepG.length {O : List Addr} {h : Heap} {b : Bool} {vs : List Value} {ds : List PyData} (r : RepG O h b vs ds) : vs.length = ds.length := by
  induction r <;> simp_all
theorem RepG.get {O : List Addr} {h : Heap} {b : Bool} {vs : List Value} {ds : List PyData} (r : RepG O h b vs ds) : ∀ (i : Nat) d, b = true → ds[i]? = some d → ∃ v, vs[i]? = some v ∧ Rep O h v d := by
  induction r with
  | nn | bool | int | str | list | tuple => intro i d e; cases e
  | nil => intro i d _ e; simp at e
  | cons h1 _ _ ih2 =>
    intro i d _ e
    cases i with
    | zero => simp at e; subst e; exact ⟨_, by simp, h1⟩
    | succ i => simp at e; obtain ⟨v, e1, e2⟩ := ih2 i d rfl e; exact ⟨v, by simpa using e1, e2⟩
theorem Reps.append {O : List Addr} {h : Heap} {ws : List Value} {es : List PyData} (q : Reps O h ws es) : ∀ {vs : List Value} {ds : List PyData}, Reps O h vs ds → Reps O h (vs ++ ws) (ds ++ es)
  | [], _, r => by cases r; exact q
  | v :: vs, _, r => by cases r with | cons h1 h2 => exact .cons h1 (Reps.append q h2)
theorem Reps.take {O : List Addr} {h : Heap} : ∀ {vs : List Value} {ds : List PyData} (n : Nat), Reps O h vs ds → Reps O h (vs.take n) (ds.take n)
  | vs, _, 0, r => by simpa using RepG.nil
  | [], _, n + 1, r => by cases r; exact .nil
  | v :: vs, _, n + 1, r => by cases r with | cons h1 h2 => exact .cons h1 (Reps.take n h2)
theorem Reps.drop {O : List Addr} {h : Heap} : ∀ {vs : List Value} {ds : List PyData} (n : Nat), Reps O h vs ds → Reps O h (vs.drop n) (ds.drop n)
  | vs, _, 0, r => r
  | [], _, n + 1, r => by cases r; exact .nil
  | v :: vs, _, n + 1, r => by cases r with | cons h1 h2 => exact Reps.drop n h2
theorem Reps.reverse {O : List Addr} {h : Heap} : ∀ {vs : List Value} {ds : List PyData}, Reps O h vs ds → Reps O h vs.reverse ds.reverse
  | [], _, r => by cases r; exact .nil
  | v :: vs, _, r => by cases r with | cons h1 h2 => rw [List.reverse_cons, List.reverse_cons]; exact Reps.append (.cons h1 .nil) (Reps.reverse h2)
theorem Reps.set {O : List Addr} {h : Heap} {v' : Value} {d' : PyData} (q : Rep O h v' d') : ∀ {vs : List Value} {ds : List PyData} (n : Nat), Reps O h vs ds → Reps O h (vs.set n v') (ds.set n d')
  | [], _, n, r => by cases r; exact .nil
  | v :: vs, _, 0, r => by cases r with | cons h1 h2 => exact .cons q h2
  | v :: vs, _, n + 1, r => by cases r with | cons h1 h2 => exact .cons h1 (Reps.set q n h2)

/- eliminations -/
noncomputable def InvV (O : List Addr) (h : Heap) (v : Value) : PyData → Prop
  | .none => v = .none
  | .bool b => v = .bool b
  | .int i => ∃ t, v = .int i t
  | .str x => ∃ t, v = .str x t
  | .list xs => ∃ a n vs, v = .ref a ∧ a ∉ O ∧ h.get? a = some { cls := .type "list", data := .seq (List.toArray vs) n } ∧ Reps O h vs xs
  | .tuple xs => ∃ a n vs, v = .ref a ∧ a ∉ O ∧ h.get? a = some { cls := .type "tuple", data := .seq (List.toArray vs) n } ∧ Reps O h vs xs
  | .dict _ => False
noncomputable def Inv (O : List Addr) (h : Heap) : Bool → List Value → List PyData → Prop
  | false, [v], [d] => InvV O h v d
  | true, [], [] => True
  | true, v :: vs, d :: ds => Rep O h v d ∧ Reps O h vs ds
  | _, _, _ => False
theorem RepG.inv {O : List Addr} {h : Heap} {b : Bool} {vs : List Value} {ds : List PyData} (r : RepG O h b vs ds) : Inv O h b vs ds := by
  cases r with
  | nn => exact rfl
  | bool b => exact rfl
  | int i t => exact ⟨t, rfl⟩
  | str x t => exact ⟨t, rfl⟩
  | list vs hn ho hr => exact ⟨_, _, vs, rfl, hn, ho, hr⟩
  | tuple vs hn ho hr => exact ⟨_, _, vs, rfl, hn, ho, hr⟩
  | nil => exact trivial
  | cons h1 h2 => exact ⟨h1, h2⟩
@[elab_as_elim] theorem RepG.int_ {O : List Addr} {h : Heap} {v : Value} {i : Int} (r : Rep O h v (.int i)) {P : Value → Prop} (k : ∀ t, P (.int i t)) : P v := let ⟨t, e⟩ := (r.inv : ∃ t, v = .int i t); e ▸ k t
@[elab_as_elim] theorem RepG.str_ {O : List Addr} {h : Heap} {v : Value} {x : Str} (r : Rep O h v (.str x)) {P : Value → Prop} (k : ∀ t, P (.str x t)) : P v := let ⟨t, e⟩ := (r.inv : ∃ t, v = .str x t); e ▸ k t
@[elab_as_elim] theorem RepG.bool_ {O : List Addr} {h : Heap} {v : Value} {b : Bool} (r : Rep O h v (.bool b)) {P : Value → Prop} (k : P (.bool b)) : P v := (r.inv : v = .bool b) ▸ k
@[elab_as_elim] theorem RepG.nn_ {O : List Addr} {h : Heap} {v : Value} (r : Rep O h v .none) {P : Value → Prop} (k : P .none) : P v := (r.inv : v = .none) ▸ k
@[elab_as_elim] theorem RepG.list_ {O : List Addr} {h : Heap} {v : Value} {xs : List PyData} (r : Rep O h v (.list xs)) {P : Value → Prop} (k : ∀ a n vs, a ∉ O → h.get? a = some { cls := .type "list", data := .seq (List.toArray vs) n } → Reps O h vs xs → P (.ref a)) : P v :=
  let ⟨a, n, vs, e, h1, h2, h3⟩ := (r.inv : InvV O h v (.list xs)); e ▸ k a n vs h1 h2 h3
@[elab_as_elim] theorem RepG.tup_ {O : List Addr} {h : Heap} {v : Value} {xs : List PyData} (r : Rep O h v (.tuple xs)) {P : Value → Prop} (k : ∀ a n vs, a ∉ O → h.get? a = some { cls := .type "tuple", data := .seq (List.toArray vs) n } → Reps O h vs xs → P (.ref a)) : P v :=
  let ⟨a, n, vs, e, h1, h2, h3⟩ := (r.inv : InvV O h v (.tuple xs)); e ▸ k a n vs h1 h2 h3
@[elab_as_elim] theorem RepG.nil_ {O : List Addr} {h : Heap} {vs : List Value} (r : Reps O h vs []) {P : List Value → Prop} (k : P []) : P vs := match vs, r.inv with | [], _ => k
@[elab_as_elim] theorem RepG.cons_ {O : List Addr} {h : Heap} {vs : List Value} {d : PyData} {ds : List PyData} (r : Reps O h vs (d :: ds)) {P : List Value → Prop} (k : ∀ v vs', Rep O h v d → Reps O h vs' ds → P (v :: vs')) : P vs := match vs, r.inv with | v :: vs', h => k v vs' h.1 h.2
@[elab_as_elim] theorem RepG.one_ {O : List Addr} {h : Heap} {vs : List Value} {d : PyData} (r : Reps O h vs [d]) {P : List Value → Prop} (k : ∀ v, Rep O h v d → P [v]) : P vs := r.cons_ fun v vs' h1 h2 => h2.nil_ (P := fun vs' => P (v :: vs')) (k v h1)
@[elab_as_elim] theorem RepG.two_ {O : List Addr} {h : Heap} {vs : List Value} {d e : PyData} (r : Reps O h vs [d, e]) {P : List Value → Prop} (k : ∀ v u, Rep O h v d → Rep O h u e → P [v, u]) : P vs := r.cons_ fun v vs' h1 h2 => h2.one_ (P := fun vs' => P (v :: vs')) fun u h3 => k v u h1 h3
@[elab_as_elim] theorem RepG.three_ {O : List Addr} {h : Heap} {vs : List Value} {d e f : PyData} (r : Reps O h vs [d, e, f]) {P : List Value → Prop} (k : ∀ v u w, Rep O h v d → Rep O h u e → Rep O h w f → P [v, u, w]) : P vs := r.cons_ fun v vs' h1 h2 => h2.two_ (P := fun vs' => P (v :: vs')) fun u w h3 h4 => k v u w h1 h3 h4
@[elab_as_elim] theorem len1_ {α : Type} {vs : List α} (h : vs.length = 1) {P : List α → Prop} (k : ∀ a, P [a]) : P vs := match vs, h with | [a], _ => k a
@[elab_as_elim] theorem len2_ {α : Type} {vs : List α} (h : vs.length = 2) {P : List α → Prop} (k : ∀ a b, P [a, b]) : P vs := match vs, h with | [a, b], _ => k a b
@[elab_as_elim] theorem len3_ {α : Type} {vs : List α} (h : vs.length = 3) {P : List α → Prop} (k : ∀ a b c, P [a, b, c]) : P vs := match vs, h with | [a, b, c], _ => k a b c
@[elab_as_elim] theorem len5_ {α : Type} {vs : List α} (h : vs.length = 5) {P : List α → Prop} (k : ∀ a b c d e, P [a, b, c, d, e]) : P vs := match vs, h with | [a, b, c, d, e], _ => k a b c d e
@[elab_as_elim] theorem len6_ {α : Type} {vs : List α} (h : vs.length = 6) {P : List α → Prop} (k : ∀ a b c d e f, P [a, b, c, d, e, f]) : P vs := match vs, h with | [a, b, c, d, e, f], _ => k a b c d e f
theorem mem1_ {α : Type} {P : α → Prop} {a : α} (ha : P a) : ∀ y ∈ [a], P y := fun y hy => by rw [List.mem_singleton] at hy; exact hy ▸ ha
theorem memC_ {α : Type} {P : α → Prop} {a : α} {l : List α} (ha : P a) (hl : ∀ y ∈ l, P y) : ∀ y ∈ a :: l, P y := List.forall_mem_cons.mpr ⟨ha, hl⟩
theorem mem2_ {α : Type} {P : α → Prop} {a b : α} (ha : P a) (hb : P b) : ∀ y ∈ [a, b], P y := memC_ ha (mem1_ hb)
theorem mem3_ {α : Type} {P : α → Prop} {a b c : α} (ha : P a) (hb : P b) (hc : P c) : ∀ y ∈ [a, b, c], P y := memC_ ha (mem2_ hb hc)
theorem lookC_ {α : Type} {P : Str → α → Prop} {x : Str} {a : α} {l : List (Str × α)} (ha : P x a) (hl : ∀ y b, l.lookup y = some b → P y b) : ∀ y b, List.lookup y ((x, a) :: l) = some b → P y b := fun y b e => by
  rw [List.lookup_cons] at e
  cases hb : y == x with
  | true => rw [hb] at e; cases e; rw [beq_iff_eq.mp hb]; exact ha
  | false => rw [hb] at e; exact hl y b e
theorem look0_ {α : Type} {P : Str → α → Prop} : ∀ y b, List.lookup y ([] : List (Str × α)) = some b → P y b := fun _ _ e => by cases e
theorem RepG.listAt_ {O : List Addr} {h : Heap} {a : Addr} {xs : List PyData} (r : Rep O h (.ref a) (.list xs)) : ∃ n vs, a ∉ O ∧ h.get? a = some { cls := .type "list", data := .seq (List.toArray vs) n } ∧ Reps O h vs xs :=
  let ⟨a', n, vs, e, h1⟩ := (r.inv : InvV O h (.ref a) (.list xs)); ⟨n, vs, by injection e with e; exact e ▸ h1⟩
theorem RepG.tupAt_ {O : List Addr} {h : Heap} {a : Addr} {xs : List PyData} (r : Rep O h (.ref a) (.tuple xs)) : ∃ n vs, a ∉ O ∧ h.get? a = some { cls := .type "tuple", data := .seq (List.toArray vs) n } ∧ Reps O h vs xs :=
  let ⟨a', n, vs, e, h1⟩ := (r.inv : InvV O h (.ref a) (.tuple xs)); ⟨n, vs, by injection e with e; exact e ▸ h1⟩
/-- the fixed surroundings of the law's call -/
structure Cfg where
  w : World
  base : Addr → Option Obj
  mg : Str → Option Value
  mb : Str → Option Value
  ti : Addr
  td : Addr
  pi : Pos
  pd : Pos
  ki : Option Addr
  kd : Option Addr

noncomputable abbrev Cfg.M (C : Cfg) : Model := model PySem.Challenge.rw_sh0022_01.row.prog C.w
noncomputable abbrev Cfg.T (C : Cfg) : List Addr := [C.ti, C.td]

noncomputable def TabAt (h : Heap) (P : Addr) (pos : Pos) (q : Str) (k : Option Addr) : Prop := ∃ ps, h.get? P = some (tabObj ps) ∧ ((k = none ∧ ps = #[]) ∨ ∃ c', ((k = none ∨ k = some c') ∧ ps = #[rawInt pos.line, rawInt pos.col, .ref c']) ∧ h.CodeRec (.ref c') q)

structure Kp (C : Cfg) (O : List Addr) (h h' : Heap) : Prop where
  live : ∀ b o, h.get? b = some o → ∃ o', h'.get? b = some o'
  keep : ∀ b o, b ∉ O → h.get? b = some o → h'.get? b = some o ∨ (C.base b = none ∧ (∃ es ep, o.data = .dict es ep) ∧ ∃ sl, h'.get? b = some { o with slots := sl })
  dict : ∀ b o es ep, h.get? b = some o → o.data = .dict es ep → ∃ o' es' ep', h'.get? b = some o' ∧ o'.data = .dict es' ep'

theorem Kp.refl (C : Cfg) (O : List Addr) (h : Heap) : Kp C O h h := ⟨fun _ o e => ⟨o, e⟩, fun _ _ _ e => .inl e, fun _ o es ep e d => ⟨o, es, ep, e, d⟩⟩
theorem Kp.of_keeps {C : Cfg} {O : List Addr} {h h' : Heap} (hk : ∀ b o, h.get? b = some o → h'.get? b = some o) : Kp C O h h' :=
  ⟨fun b o e => ⟨o, hk b o e⟩, fun b o _ e => .inl (hk b o e), fun _ o es ep e d => ⟨o, es, ep, hk _ _ e, d⟩⟩
theorem Kp.push (C : Cfg) (O : List Addr) (h : Heap) (o : Obj) : Kp C O h (h.push o) := .of_keeps fun _ _ e => Heap.get?_push_of_some o e
theorem Kp.mono {C : Cfg} {O O' : List Addr} {h h' : Heap} (k : Kp C O h h') (hs : ∀ b ∈ O, b ∈ O') : Kp C O' h h' :=
  ⟨k.live, fun b o hb e => k.keep b o (fun q => hb (hs b q)) e, k.dict⟩
theorem Kp.trans {C : Cfg} {O O' : List Addr} {h h₁ h₂ : Heap} (x : Kp C O h h₁) (y : Kp C O' h₁ h₂) (hs : ∀ b ∈ O', b ∈ O ∨ h.get? b = none) : Kp C O h h₂ := by
  refine ⟨fun b o e => let ⟨o', e'⟩ := x.live b o e; y.live b o' e', fun b o hb e => ?_, fun b o es ep e d => ?_⟩
  · have hb' : b ∉ O' := fun q => (hs b q).elim hb fun e' => by rw [e'] at e; cases e
    rcases x.keep b o hb e with e1 | ⟨n1, ⟨es, ep, d1⟩, sl, e1⟩
    · exact y.keep b o hb' e1
    · rcases y.keep b _ hb' e1 with e2 | ⟨_, _, sl2, e2⟩
      · exact .inr ⟨n1, ⟨es, ep, d1⟩, sl, e2⟩
      · exact .inr ⟨n1, ⟨es, ep, d1⟩, sl2, e2⟩
  · obtain ⟨o', es', ep', e1, d1⟩ := x.dict b o es ep e d
    exact y.dict b o' es' ep' e1 d1
theorem Kp.trans' {C : Cfg} {O : List Addr} {h h₁ h₂ : Heap} (x : Kp C O h h₁) (y : Kp C O h₁ h₂) : Kp C O h h₂ := x.trans y fun _ q => .inl q
theorem Kp.seq {C : Cfg} {O : List Addr} {h h' : Heap} (k : Kp C O h h') {a : Addr} {o : Obj} (ha : a ∉ O) (e : h.get? a = some o) (hd : ∀ es ep, o.data ≠ .dict es ep) : h'.get? a = some o := by
  rcases k.keep a o ha e with e1 | ⟨_, ⟨es, ep, d⟩, _⟩
  · exact e1
  · exact absurd d (hd es ep)
theorem Kp.sameBut {C : Cfg} {O : List Addr} {h h' : Heap} {a : Addr} (hs : Heap.SameBut a h h') (ha : a ∈ O) {o' : Obj} (he' : h'.get? a = some o') (hd : ∀ o es ep, h.get? a = some o → o.data = .dict es ep → ∃ o' es' ep', h'.get? a = some o' ∧ o'.data = .dict es' ep') : Kp C O h h' :=
  ⟨fun b o e => by
    by_cases q : b = a
    · subst q; exact ⟨o', he'⟩
    · exact ⟨o, (hs.2 b q).trans e⟩, fun b o hb e => .inl ((hs.2 b fun q => hb (q ▸ ha)).trans e), fun b o es ep e d => by
    by_cases q : b = a
    · subst q; exact hd o es ep e d
    · exact ⟨o, es, ep, (hs.2 b q).trans e, d⟩⟩
/-- ExtBut: all else stays, the one may turn (not a dict) -/
theorem Kp.extBut {C : Cfg} {O : List Addr} {h h' : Heap} {a : Addr} (hs : Heap.ExtBut a h h') (ha : a ∈ O) (hl : ∃ o', h'.get? a = some o') (hd : ∀ o es ep, h.get? a = some o → o.data ≠ .dict es ep) : Kp C O h h' :=
  ⟨fun b o e => by
    by_cases q : b = a
    · subst q; exact hl
    · exact ⟨o, hs b o q e⟩, fun b o hb e => .inl (hs b o (fun q => hb (q ▸ ha)) e), fun b o es ep e d => by
    by_cases q : b = a
    · subst q; exact absurd d (hd o es ep e)
    · exact ⟨o, es, ep, hs b o q e, d⟩⟩
theorem Kp.rep {C : Cfg} {O O' : List Addr} {h h' : Heap} {b : Bool} {vs : List Value} {ds : List PyData} (k : Kp C O' h h') (hs : ∀ a ∈ O', a ∈ O) (r : RepG O h b vs ds) : RepG O h' b vs ds :=
  r.moved fun a o xs n ha ho hd => ⟨k.seq (fun q => ha (hs a q)) ho (fun es ep q => by rw [hd] at q; cases q), ha⟩
theorem Kp.ns {C : Cfg} {O : List Addr} {h h' : Heap} {L : Addr} {m : Str → Option Value} (k : Kp C O h h') (hL : L ∉ O) (n : h.Ns L m) : h'.Ns L m := by
  obtain ⟨o, es, ep, e, hd, r⟩ := n
  rcases k.keep L o hL e with e1 | ⟨_, _, sl, e1⟩
  · exact ⟨o, es, ep, e1, hd, r⟩
  · exact ⟨_, es, ep, e1, hd, r⟩
theorem Kp.cell {C : Cfg} {O : List Addr} {h h' : Heap} {c : Addr} {v : Option Value} (k : Kp C O h h') (hc : c ∉ O) (x : h.IsCell c v) : h'.IsCell c v := by
  obtain ⟨o, e, d⟩ := x
  exact ⟨o, k.seq hc e (fun es ep q => by rw [d] at q; cases q), d⟩

structure GI (C : Cfg) (h : Heap) : Prop where
  base : ∀ b o, C.base b = some o → h.get? b = some o
  tabi : TabAt h C.ti C.pi "_int2digits.<locals>.inner" C.ki
  tabd : TabAt h C.td C.pd "_digits2int.<locals>.inner" C.kd

/-- a code's object -/
noncomputable def Codish (o : Obj) : Prop := ∃ vs x t, o.data = .fields vs ∧ vs[1]? = some (Value.str x t)
theorem GI.keeps {C : Cfg} {h h' : Heap} (g : GI C h) (hk : ∀ b o, C.base b = some o → h.get? b = some o → h'.get? b = some o) (hT : ∀ b o, b ∈ C.T → h.get? b = some o → h'.get? b = some o)
    (hf : ∀ b o, h.get? b = some o → Codish o → h'.get? b = some o) : GI C h' := by
  refine ⟨fun b o e => hk b o e (g.base b o e), ?_, ?_⟩
  · obtain ⟨ps, e, r⟩ := g.tabi
    refine ⟨ps, hT _ _ (by simp) e, r.imp id ?_⟩
    rintro ⟨c', e1, c, o, vs, t, e2, e3, e4, e5⟩
    exact ⟨c', e1, c, o, vs, t, e2, hf _ _ e3 ⟨_, _, _, e4, e5⟩, e4, e5⟩
  · obtain ⟨ps, e, r⟩ := g.tabd
    refine ⟨ps, hT _ _ (by simp) e, r.imp id ?_⟩
    rintro ⟨c', e1, c, o, vs, t, e2, e3, e4, e5⟩
    exact ⟨c', e1, c, o, vs, t, e2, hf _ _ e3 ⟨_, _, _, e4, e5⟩, e4, e5⟩
theorem GI.push {C : Cfg} {h : Heap} (g : GI C h) (o : Obj) : GI C (h.push o) := g.keeps (fun _ _ _ e => Heap.get?_push_of_some _ e) (fun _ _ _ e => Heap.get?_push_of_some _ e) fun _ _ e _ => Heap.get?_push_of_some _ e
theorem GI.keepAll {C : Cfg} {h h' : Heap} (g : GI C h) (hk : ∀ b o, h.get? b = some o → h'.get? b = some o) : GI C h' := g.keeps (fun _ _ _ e => hk _ _ e) (fun _ _ _ e => hk _ _ e) fun _ _ e _ => hk _ _ e
theorem GI.extBut {C : Cfg} {h h' : Heap} {a : Addr} (g : GI C h) (hs : Heap.ExtBut a h h') (ha : C.base a = none) (hT : a ∉ C.T) (hd : ∀ o, h.get? a = some o → ¬ Codish o) : GI C h' :=
  g.keeps (fun b o e1 e2 => hs b o (fun q => by rw [q, ha] at e1; cases e1) e2) (fun b o hb e => hs b o (fun q => hT (q ▸ hb)) e) fun b o e d => hs b o (fun q => hd o (q ▸ e) d) e
theorem GI.sameBut {C : Cfg} {h h' : Heap} {a : Addr} (g : GI C h) (hs : Heap.SameBut a h h') (ha : C.base a = none) (hT : a ∉ C.T) (hd : ∀ o, h.get? a = some o → ¬ Codish o) : GI C h' := g.extBut hs.extBut ha hT hd
theorem GI.fresh {C : Cfg} {h : Heap} (g : GI C h) {a : Addr} (ha : h.get? a = none) : C.base a = none := by
  cases e : C.base a with
  | none => rfl
  | some o => rw [g.base _ _ e] at ha; cases ha
theorem GI.freshT {C : Cfg} {h : Heap} (g : GI C h) {a : Addr} (ha : h.get? a = none) : a ∉ C.T := by
  intro q
  rcases List.mem_cons.mp q with rfl | q
  · obtain ⟨ps, e, _⟩ := g.tabi; rw [e] at ha; cases ha
  · have : a = C.td := by simpa using q
    subst this
    obtain ⟨ps, e, _⟩ := g.tabd; rw [e] at ha; cases ha

structure Room (C : Cfg) (k : Nat) (A : Around) (h : Heap) : Prop where
  handled : A.handled = none
  depth : A.depth + k + 100 < recursionLimit
  units : A.units + 16 * k + 1000 < cLine
  frames : ∃ outer, A.frames = some outer ∧ ∀ env ∈ outer, env.scope.kind ≠ .module ∧ ∃ L o es ep, env.frame = some L ∧ C.base L = none ∧ h.get? L = some o ∧ o.data = .dict es ep
noncomputable def Kd (h h' : Heap) : Prop := ∀ b o es ep, h.get? b = some o → o.data = .dict es ep → ∃ o' es' ep', h'.get? b = some o' ∧ o'.data = .dict es' ep'
theorem Kd.refl (h : Heap) : Kd h h := fun b o es ep e d => ⟨o, es, ep, e, d⟩
theorem Kd.trans {h h₁ h₂ : Heap} (x : Kd h h₁) (y : Kd h₁ h₂) : Kd h h₂ := fun b o es ep e d => let ⟨o', es', ep', e1, d1⟩ := x b o es ep e d; y b o' es' ep' e1 d1
theorem Room.kd {C : Cfg} {k : Nat} {A : Around} {h h' : Heap} (r : Room C k A h) (x : Kd h h') : Room C k A h' :=
  ⟨r.handled, r.depth, r.units, let ⟨outer, e, q⟩ := r.frames; ⟨outer, e, fun env he => ⟨(q env he).1, let ⟨L, o, es, ep, f1, f2, f3, f4⟩ := (q env he).2; let ⟨o', es', ep', g1, g2⟩ := x L o es ep f3 f4; ⟨L, o', es', ep', f1, f2, g1, g2⟩⟩⟩⟩
theorem Room.kp {C : Cfg} {k : Nat} {A : Around} {O : List Addr} {h h' : Heap} (r : Room C k A h) (x : Kp C O h h') : Room C k A h' := r.kd x.dict
theorem Room.le {C : Cfg} {k j : Nat} {A : Around} {h : Heap} (r : Room C k A h) (hj : j ≤ k) : Room C j A h := ⟨r.handled, by have := r.depth; omega, by have := r.units; omega, r.frames⟩

/-- what a name is bound to -/
inductive Bd where
  | d (x : PyData)
  | v (x : Value)
  | r (u : Value) (x : PyData)
  | L (a : Addr) (ds : List PyData)
  | ob (a : Addr) (P : Obj → Prop)
noncomputable def Bd.addr : Bd → Option Addr
  | .L a _ => some a
  | .ob a _ => some a
  | _ => none
noncomputable def Fld (o : Obj) : Prop := ∃ vs, o.data = .fields vs ∧ ∀ x t, vs[1]? ≠ some (Value.str x t)
noncomputable def Bears (C : Cfg) (T : List Addr) (he : Heap) (O : List Addr) (h : Heap) (v : Value) : Bd → Prop
  | .d x => Rep O h v x
  | .v u => v = u
  | .r u x => v = u ∧ Rep O h v x
  | .L a ds => v = .ref a ∧ a ∈ O ∧ a ∉ C.T ∧ (he.get? a = none ∨ a ∈ T) ∧ ∃ vs n, h.get? a = some { cls := .type "list", data := .seq (List.toArray vs) n } ∧ Reps O h vs ds
  | .ob a P => v = .ref a ∧ a ∈ O ∧ a ∉ C.T ∧ (he.get? a = none ∨ a ∈ T) ∧ ∃ o, h.get? a = some o ∧ P o ∧ Fld o

noncomputable abbrev Mp := List (Str × Bd)
noncomputable def NameAt (C : Cfg) (T : List Addr) (env : Env) (he : Heap) (O : List Addr) (h : Heap) (mm : Str → Option Value) (x : Str) (b : Bd) : Prop :=
  (env.kindOf x = some .local → ∃ v, mm x = some v ∧ Bears C T he O h v b) ∧
  (env.kindOf x = some .cell ∨ env.kindOf x = some .free → ∃ c v, env.cells.lookup x = some c ∧ h.IsCell c (some v) ∧ Bears C T he O h v b) ∧ ∃ v, Bears C T he O h v b

/-- the names of a frame and what they bear -/
structure FS (C : Cfg) (T : List Addr) (env : Env) (he : Heap) (Oc O : List Addr) (h : Heap) (fz : Bool) (m : Mp) : Prop where
  kind : env.scope.kind = .function
  glob : env.globals = mainGlobals
  blt : env.builtins = builtinsNs
  tabs : ∀ b ∈ C.T, b ∈ O
  tT : ∀ b ∈ C.T, b ∈ T
  tO : ∀ b ∈ T, b ∈ Oc
  sup : ∀ b ∈ Oc, b ∈ O ∧ ∃ o, he.get? b = some o
  av : ∀ b ∈ O, C.base b = none ∧ ∃ o, h.get? b = some o
  loc : env.locals ∈ O ∧ he.get? env.locals = none
  cells : ∀ x c, env.cells.lookup x = some c → c ∉ T ∧ (∃ v, h.IsCell c v) ∧ (fz = false → c ∈ O ∧ he.get? c = none)
  apart : ∀ x y c, env.cells.lookup x = some c → env.cells.lookup y = some c → x = y
  bear : ∃ mm, h.Ns env.locals mm ∧ ∀ x b, m.lookup x = some b → NameAt C T env he O h mm x b
  disj : ∀ x y bx by' a, m.lookup x = some bx → m.lookup y = some by' → bx.addr = some a → by'.addr = some a → x = y
  ext : Kp C T he h

section
variable {C : Cfg} {T : List Addr} {env : Env} {he : Heap} {Oc O O' : List Addr} {h h' : Heap} {m : Mp} {fz : Bool}

theorem FS.locT (F : FS C T env he Oc O h fz m) : env.locals ∉ T := fun q => by
  obtain ⟨o, e⟩ := (F.sup _ (F.tO _ q)).2
  rw [F.loc.2] at e; cases e
/-- bearing carried to another heap -/
theorem Bears.moved {v : Value} {b : Bd} (x : Bears C T he O h v b) (hO : ∀ a ∈ O, a ∈ O')
    (hk : ∀ a o, h.get? a = some o → a ∉ O → (∃ xs n, o.data = .seq xs n) → h'.get? a = some o ∧ a ∉ O')
    (hw : ∀ a o, b.addr = some a → h.get? a = some o → a ∉ C.T → (Fld o ∨ ∃ xs n, o.data = .seq xs n) → h'.get? a = some o) : Bears C T he O' h' v b := by
  have rp : ∀ {bb vs ds}, RepG O h bb vs ds → RepG O' h' bb vs ds := fun r => r.moved fun a o xs n ha ho hd => hk a o ho ha ⟨xs, n, hd⟩
  cases b with
  | d y => exact rp x
  | v u => exact x
  | r u y => exact ⟨x.1, rp x.2⟩
  | L a ds =>
    obtain ⟨e, h1, h2, h3, vs, n, h4, h5⟩ := x
    exact ⟨e, hO _ h1, h2, h3, vs, n, hw _ _ rfl h4 h2 (.inr ⟨_, _, rfl⟩), rp h5⟩
  | ob a P =>
    obtain ⟨e, h1, h2, h3, o, h4, h5, h6⟩ := x
    exact ⟨e, hO _ h1, h2, h3, o, hw _ _ rfl h4 h2 (.inl h6), h5, h6⟩
end

section
variable {C : Cfg} {T : List Addr} {env : Env} {he : Heap} {Oc O O' : List Addr} {h h' : Heap} {m m' : Mp} {fz : Bool}

theorem Bears.kp {v : Value} {b : Bd} (x : Bears C T he O h v b) (k : Kp C C.T h h') (hT : ∀ a ∈ C.T, a ∈ O) : Bears C T he O h' v b :=
  x.moved (fun _ q => q) (fun a o e ha ⟨xs, n, hd⟩ => ⟨k.seq (fun q => ha (hT a q)) e (fun es ep q => by rw [hd] at q; cases q), ha⟩)
    fun a o _ e ha hf => k.seq ha e fun es ep q => by rcases hf with ⟨vs, hd, _⟩ | ⟨xs, n, hd⟩ <;> rw [hd] at q <;> cases q
theorem Bears.grow {v : Value} {b : Bd} {a : Addr} (x : Bears C T he O h v b) (ha : h.get? a = none) : Bears C T he (a :: O) h v b :=
  x.moved (fun _ q => List.mem_cons_of_mem _ q) (fun c o e hc _ => ⟨e, fun q => (List.mem_cons.mp q).elim (fun z => by rw [z, ha] at e; cases e) hc⟩) fun _ _ _ e _ _ => e

theorem FS.kp (F : FS C T env he Oc O h fz m) (k : Kp C C.T h h') : FS C T env he Oc O h' fz m where
  kind := F.kind
  glob := F.glob
  blt := F.blt
  tabs := F.tabs
  tT := F.tT
  tO := F.tO
  sup := F.sup
  av := fun b hb => ⟨(F.av b hb).1, let ⟨o, e⟩ := (F.av b hb).2; k.live b o e⟩
  loc := F.loc
  cells := fun x c e => let ⟨a1, ⟨v, a2⟩, a3⟩ := F.cells x c e; ⟨a1, ⟨v, k.cell (fun q => a1 (F.tT _ q)) a2⟩, a3⟩
  apart := F.apart
  bear := by
    obtain ⟨mm, n, q⟩ := F.bear
    refine ⟨mm, k.ns (fun z => F.locT (F.tT _ z)) n, fun x b e => ?_⟩
    obtain ⟨q1, q2, v, q3⟩ := q x b e
    refine ⟨fun hl => let ⟨v, e1, e2⟩ := q1 hl; ⟨v, e1, e2.kp k F.tabs⟩, fun hl => ?_, v, q3.kp k F.tabs⟩
    obtain ⟨c, v, e1, e2, e3⟩ := q2 hl
    exact ⟨c, v, e1, k.cell (fun z => (F.cells x c e1).1 (F.tT _ z)) e2, e3.kp k F.tabs⟩
  disj := F.disj
  ext := F.ext.trans k fun b hb => .inl (F.tT b hb)

noncomputable def Sub (m' m : Mp) : Prop := ∀ x b, m.lookup x = some b → m'.lookup x = some b
theorem FS.sub (F : FS C T env he Oc O h fz m') (hs : Sub m' m) : FS C T env he Oc O h fz m :=
  { F with
    bear := let ⟨mm, n, q⟩ := F.bear; ⟨mm, n, fun x b e => q x b (hs x b e)⟩
    disj := fun x y bx by' a e1 e2 => F.disj x y bx by' a (hs _ _ e1) (hs _ _ e2) }
theorem FS.fz1 (F : FS C T env he Oc O h fz m) : FS C T env he Oc O h true m :=
  { F with cells := fun x c e => let ⟨a1, a2, _⟩ := F.cells x c e; ⟨a1, a2, nofun⟩ }

theorem FS.alloc {a : Addr} {o : Obj} (F : FS C T env he Oc O h fz m) (g : GI C h) (ha : h.get? a = none) (k : Kp C C.T h h') (ha' : h'.get? a = some o) : FS C T env he Oc (a :: O) h' fz m where
  kind := F.kind
  glob := F.glob
  blt := F.blt
  tabs := fun b hb => List.mem_cons_of_mem _ (F.tabs b hb)
  tT := F.tT
  tO := F.tO
  sup := fun b hb => ⟨List.mem_cons_of_mem _ (F.sup b hb).1, (F.sup b hb).2⟩
  av := fun b hb => (List.mem_cons.mp hb).elim (fun z => by subst z; exact ⟨g.fresh ha, _, ha'⟩) fun hb => ⟨(F.av b hb).1, let ⟨o, e⟩ := (F.av b hb).2; k.live b o e⟩
  loc := ⟨List.mem_cons_of_mem _ F.loc.1, F.loc.2⟩
  cells := fun x c e => let ⟨a1, ⟨v, a2⟩, a3⟩ := F.cells x c e; ⟨a1, ⟨v, k.cell (fun q => a1 (F.tT _ q)) a2⟩, fun z => ⟨List.mem_cons_of_mem _ (a3 z).1, (a3 z).2⟩⟩
  apart := F.apart
  bear := by
    obtain ⟨mm, n, q⟩ := F.bear
    have tb : ∀ a_1 ∈ C.T, a_1 ∈ a :: O := fun b hb => List.mem_cons_of_mem _ (F.tabs b hb)
    refine ⟨mm, k.ns (fun z => F.locT (F.tT _ z)) n, fun x b e => ?_⟩
    obtain ⟨q1, q2, v, q3⟩ := q x b e
    refine ⟨fun hl => let ⟨v, e1, e2⟩ := q1 hl; ⟨v, e1, (e2.grow ha).kp k tb⟩, fun hl => ?_, v, (q3.grow ha).kp k tb⟩
    obtain ⟨c, v, e1, e2, e3⟩ := q2 hl
    exact ⟨c, v, e1, k.cell (fun z => (F.cells x c e1).1 (F.tT _ z)) e2, (e3.grow ha).kp k tb⟩
  disj := F.disj
  ext := F.ext.trans k fun b hb => .inl (F.tT b hb)
theorem FS.fresh_he {a : Addr} (F : FS C T env he Oc O h fz m) (ha : h.get? a = none) : he.get? a = none := by
  cases e : he.get? a with
  | none => rfl
  | some o => obtain ⟨o', e'⟩ := F.ext.live _ _ e; rw [e'] at ha; cases ha

theorem lk_ne {x y : Str} {b : Bd} (hne : ¬ y = x) : List.lookup y ((x, b) :: m) = m.lookup y := by
  rw [List.lookup_cons]
  have : (y == x) = false := by simpa using hne
  rw [this]
theorem lk_self {x : Str} {b : Bd} : List.lookup x ((x, b) :: m) = some b := by
  rw [List.lookup_cons]; simp
/-- a new name's address is none of the others' -/
noncomputable def Apart1 (m : Mp) (x : Str) (b : Bd) : Prop := ∀ y by' a, y ≠ x → m.lookup y = some by' → by'.addr = some a → b.addr ≠ some a
theorem Apart1.none {x : Str} {b : Bd} (e : b.addr = none) : Apart1 m x b := fun _ _ _ _ _ _ q => by rw [e] at q; cases q
theorem disj_cons {x : Str} {b : Bd} (hd : ∀ x y bx by' a, m.lookup x = some bx → m.lookup y = some by' → bx.addr = some a → by'.addr = some a → x = y) (ha : Apart1 m x b) :
    ∀ u y bx by' a, List.lookup u ((x, b) :: m) = some bx → List.lookup y ((x, b) :: m) = some by' → bx.addr = some a → by'.addr = some a → u = y := by
  intro u y bx by' a e1 e2 a1 a2
  by_cases hu : u = x <;> by_cases hy : y = x
  · rw [hu, hy]
  · subst hu; rw [lk_self] at e1; cases e1; rw [lk_ne hy] at e2; exact absurd a1 (ha y by' a hy e2 a2)
  · subst hy; rw [lk_self] at e2; cases e2; rw [lk_ne hu] at e1; exact absurd a2 (ha u bx a hu e1 a1)
  · rw [lk_ne hu] at e1; rw [lk_ne hy] at e2; exact hd u y bx by' a e1 e2 a1 a2
theorem get_ne {h : Heap} {a b : Addr} {o : Obj} (e : h.get? b = some o) (n : h.get? a = none) : b ≠ a := fun z => by rw [z, n] at e; cases e
theorem get_ne2 {h : Heap} {a b : Addr} {o o' : Obj} (e : h.get? b = some o) (e' : h.get? a = some o') (n : o.data ≠ o'.data) : b ≠ a := fun z => by rw [z, e'] at e; exact n (Option.some.inj e ▸ rfl)
/-- what an owned object is -/
structure Own (C : Cfg) (T : List Addr) (he : Heap) (O : List Addr) (h : Heap) (a : Addr) (v : Value) (o : Obj) : Prop where
  v : v = .ref a
  mem : a ∈ O
  notT : a ∉ C.T
  old : he.get? a = none ∨ a ∈ T
  get : h.get? a = some o
  nd : ∀ es ep, o.data ≠ .dict es ep
  nc : ∀ v, o.data ≠ .cell v
  nco : ¬ Codish o
theorem Bears.own {C : Cfg} {T : List Addr} {he : Heap} {O : List Addr} {h : Heap} {v : Value} {b : Bd} {a : Addr} (q : Bears C T he O h v b) (hb : b.addr = some a) : ∃ o, Own C T he O h a v o := by
  cases b with
  | d => cases hb
  | v => cases hb
  | r => cases hb
  | L a' ds =>
    cases hb
    obtain ⟨h1, h2, h3, h4, vs, n, h5, h6⟩ := q
    exact ⟨_, h1, h2, h3, h4, h5, nofun, nofun, fun ⟨_, _, _, d, _⟩ => by cases d⟩
  | ob a' P =>
    cases hb
    obtain ⟨h1, h2, h3, h4, o, h5, h6, vs, hd, hv⟩ := q
    exact ⟨o, h1, h2, h3, h4, h5, (fun es ep z => by rw [hd] at z; cases z), (fun v z => by rw [hd] at z; cases z), fun ⟨vs', x, t, d, e⟩ => by rw [hd] at d; cases d; exact hv _ _ e⟩
theorem FS.apartNew {a : Addr} {x : Str} {b : Bd} (F : FS C T env he Oc O h fz m) (ha : h.get? a = none) (hb : b.addr = some a) : Apart1 m x b := by
  intro y by' a' hy e1 e2 e3
  rw [hb] at e3; cases e3
  obtain ⟨mm, _, q⟩ := F.bear
  obtain ⟨_, _, v, q3⟩ := q y by' e1
  obtain ⟨o, w⟩ := q3.own e2
  rw [w.get] at ha; cases ha

noncomputable def Pseudo (env : Env) (x : Str) : Prop := env.kindOf x ≠ some .local ∧ env.kindOf x ≠ some .cell ∧ env.kindOf x ≠ some .free
/-- a pseudo name -/
theorem FS.put {x : Str} {v : Value} {b : Bd} (F : FS C T env he Oc O h fz m) (hx : Pseudo env x) (r : Bears C T he O h v b) (ha : Apart1 m x b) : FS C T env he Oc O h fz ((x, b) :: m) :=
  { F with
    bear := by
      obtain ⟨mm, n, q⟩ := F.bear
      refine ⟨mm, n, fun y b' e => ?_⟩
      by_cases hy : y = x
      · subst hy; rw [lk_self] at e; cases e
        exact ⟨fun z => absurd z hx.1, fun z => z.elim (fun z => absurd z hx.2.1) fun z => absurd z hx.2.2, v, r⟩
      · rw [lk_ne hy] at e; exact q y b' e
    disj := disj_cons F.disj ha }
/-- a known value under another name's word -/
theorem FS.seen {x : Str} {b b' : Bd} (F : FS C T env he Oc O h fz m) (e : m.lookup x = some b) (hb : ∀ v, Bears C T he O h v b → Bears C T he O h v b') (ha : b'.addr = none) : FS C T env he Oc O h fz ((x, b') :: m) :=
  { F with
    bear := by
      obtain ⟨mm, n, q⟩ := F.bear
      refine ⟨mm, n, fun y c e' => ?_⟩
      by_cases hy : y = x
      · subst hy; rw [lk_self] at e'; cases e'
        obtain ⟨q1, q2, v, q3⟩ := q y b e
        exact ⟨fun hl => let ⟨v, e1, e2⟩ := q1 hl; ⟨v, e1, hb _ e2⟩, fun hl => let ⟨c, v, e1, e2, e3⟩ := q2 hl; ⟨c, v, e1, e2, hb _ e3⟩, v, hb _ q3⟩
      · rw [lk_ne hy] at e'; exact q y c e'
    disj := disj_cons F.disj (.none ha) }

/-- an owned object turned -/
theorem FS.setObj {a : Addr} {x : Str} {b b' : Bd} (F : FS C T env he Oc O h fz m) (hs : Heap.ExtBut a h h') (e : m.lookup x = some b) (hb : b.addr = some a)
    (r : Bears C T he O h (.ref a) b → Bears C T he O h' (.ref a) b') (hb' : b'.addr = some a) : FS C T env he Oc O h' fz ((x, b') :: m) := by
  obtain ⟨mm, hn, q⟩ := F.bear
  obtain ⟨_, _, v, q3⟩ := q x b e
  obtain ⟨o, w⟩ := q3.own hb
  have hO := w.mem
  have hT := w.notT
  have hH := w.old
  have ho := w.get
  have nd := w.nd
  have nc := w.nc
  have r' := r (w.v ▸ q3)
  have live' : ∃ o', h'.get? a = some o' := let ⟨o', w'⟩ := r'.own hb'; ⟨o', w'.get⟩
  obtain ⟨oL, esL, epL, eL, dL, rL⟩ := id hn
  have hLa : env.locals ≠ a := get_ne2 eL ho fun z => nd _ _ (z.symm.trans dL)
  have k : Kp C [a] h h' := Kp.extBut hs (.head _) live' fun o' es ep e1 => by rw [ho] at e1; cases e1; exact nd es ep
  have mv : ∀ y by', y ≠ x → m.lookup y = some by' → ∀ v, Bears C T he O h v by' → Bears C T he O h' v by' := fun y by' hy ey v q =>
    q.moved (fun _ z => z) (fun c oc ec hc _ => ⟨hs c oc (fun z => hc (z ▸ hO)) ec, hc⟩) fun c oc hc ec _ _ => hs c oc (fun z => by subst z; exact hy (F.disj y x by' b c ey e hc hb)) ec
  refine ⟨F.kind, F.glob, F.blt, F.tabs, F.tT, F.tO, F.sup, fun b hb => ⟨(F.av b hb).1, let ⟨o, e⟩ := (F.av b hb).2; k.live b o e⟩, F.loc, fun y c ec => ?_, F.apart, ?_, ?_, F.ext.trans k fun b hb => ?_⟩
  · obtain ⟨a1, ⟨v, a2⟩, a3⟩ := F.cells y c ec
    exact ⟨a1, ⟨v, k.cell (fun z => by rw [List.mem_singleton] at z; subst z; obtain ⟨oc, ec, dc⟩ := a2; rw [ho] at ec; cases ec; exact nc _ dc) a2⟩, a3⟩
  · refine ⟨mm, hn.extBut hs hLa, fun y b₂ ey => ?_⟩
    by_cases hy : y = x
    · subst hy; rw [lk_self] at ey; cases ey
      obtain ⟨q1, q2, _⟩ := q y b e
      refine ⟨fun hl => ?_, fun hl => ?_, _, r'⟩
      · obtain ⟨v, e1, e2⟩ := q1 hl
        have : v = .ref a := let ⟨_, w'⟩ := e2.own hb; w'.v
        exact ⟨v, e1, this ▸ r'⟩
      · obtain ⟨c, v, e1, e2, e3⟩ := q2 hl
        have : v = .ref a := let ⟨_, w'⟩ := e3.own hb; w'.v
        exact ⟨c, v, e1, k.cell (fun z => by rw [List.mem_singleton] at z; subst z; obtain ⟨oc, ec, dc⟩ := e2; rw [ho] at ec; cases ec; exact nc _ dc) e2, this ▸ r'⟩
    · rw [lk_ne hy] at ey
      obtain ⟨q1, q2, v, q3⟩ := q y b₂ ey
      refine ⟨fun hl => let ⟨v, e1, e2⟩ := q1 hl; ⟨v, e1, mv _ _ hy ey _ e2⟩, fun hl => ?_, v, mv _ _ hy ey _ q3⟩
      obtain ⟨c, v, e1, e2, e3⟩ := q2 hl
      exact ⟨c, v, e1, k.cell (fun z => by rw [List.mem_singleton] at z; subst z; obtain ⟨oc, ec, dc⟩ := e2; rw [ho] at ec; cases ec; exact nc _ dc) e2, mv _ _ hy ey _ e3⟩
  · exact disj_cons F.disj fun y by' a' hy e1 e2 e3 => by
      rw [hb'] at e3; cases e3; exact hy (F.disj y x by' b a e1 e e2 hb)
  · rw [List.mem_singleton] at hb; subst hb; exact hH.symm
theorem FS.giObj {a : Addr} {x : Str} {b : Bd} (F : FS C T env he Oc O h fz m) (g : GI C h) (hs : Heap.ExtBut a h h') (e : m.lookup x = some b) (hb : b.addr = some a) : GI C h' := by
  obtain ⟨mm, hn, q⟩ := F.bear
  obtain ⟨_, _, v, q3⟩ := q x b e
  obtain ⟨o, w⟩ := q3.own hb
  exact g.extBut hs (F.av a w.mem).1 w.notT fun o' e1 c => w.nco (Option.some.inj (w.get.symm.trans e1) ▸ c)
theorem FS.kdObj {a : Addr} {x : Str} {b : Bd} (F : FS C T env he Oc O h fz m) (hs : Heap.ExtBut a h h') (e : m.lookup x = some b) (hb : b.addr = some a) : Kd h h' := by
  obtain ⟨mm, hn, q⟩ := F.bear
  obtain ⟨_, _, v, q3⟩ := q x b e
  obtain ⟨o', w⟩ := q3.own hb
  intro b o es ep e1 d
  by_cases z : b = a
  · subst z; exact absurd d (Option.some.inj (w.get.symm.trans e1) ▸ w.nd _ _)
  · exact ⟨o, es, ep, hs b o z e1, d⟩
end

section
variable {C : Cfg} {T : List Addr} {env : Env} {he : Heap} {Oc O : List Addr} {m : Mp} {fz : Bool} {A : Around} {E : Value → Shared → Prop} {s : Shared}

/-- a name bound -/
theorem FS.bind {x : Str} {v : Value} {b : Bd} {Q : Unit → Shared → Prop} (F : FS C T env he Oc O s.heap fz m) (G : GI C s.heap) (hx : env.kindOf x = some .local ∨ env.kindOf x = some .cell)
    (hc : env.kindOf x = some .cell → fz = false ∧ (env.cells.lookup x).isSome = true) (r : Bears C T he O s.heap v b) (ha : Apart1 m x b)
    (q : ∀ h' tk, Kp C O s.heap h' → GI C h' → FS C T env he Oc O h' fz ((x, b) :: m) → Q () { s with heap := h', toks := tk }) : wpAny C.M A (storeName env x v) Q E s := by
  obtain ⟨mm, hn, hm⟩ := F.bear
  have hLb := F.av _ F.loc.1
  obtain ⟨oL, esL, epL, eL, dL, _⟩ := id hn
  by_cases hl : env.kindOf x = some .local
  · refine wpAny_storeName_local hl hn (fun h' hn' hs => ?_) (by rw [F.kind]; rfl)
    obtain ⟨oL', esL', epL', eL', dL', _⟩ := id hn'
    have k1 : Kp C [env.locals] s.heap h' := Kp.sameBut hs (.head _) eL' fun o es ep _ _ => ⟨oL', esL', epL', eL', dL'⟩
    have g : GI C h' := G.sameBut hs hLb.1 (fun z => F.locT (F.tT _ z)) fun o e ⟨vs, x, t, d, _⟩ => by rw [eL] at e; cases e; rw [dL] at d; cases d
    have mv : ∀ v b, Bears C T he O s.heap v b → Bears C T he O h' v b := fun v b z => z.moved (fun _ z => z)
      (fun c oc ec hc _ => ⟨(hs.2 c fun z => hc (z ▸ F.loc.1)).trans ec, hc⟩) fun c oc hc ec _ hf => (hs.2 c fun z => by
        rw [z, eL] at ec; cases ec; rcases hf with ⟨_, d, _⟩ | ⟨_, _, d⟩ <;> rw [dL] at d <;> cases d).trans ec
    have cl : ∀ {c v}, s.heap.IsCell c v → h'.IsCell c v := fun ⟨o, e, d⟩ => ⟨o, (hs.2 _ fun z => by rw [z, eL] at e; cases e; rw [dL] at d; cases d).trans e, d⟩
    refine q h' _ (k1.mono (by simpa using F.loc.1)) g ⟨F.kind, F.glob, F.blt, F.tabs, F.tT, F.tO, F.sup, fun b hb => ⟨(F.av b hb).1, let ⟨o, e⟩ := (F.av b hb).2; k1.live b o e⟩, F.loc,
      fun y c e => let ⟨a1, ⟨v, a2⟩, a3⟩ := F.cells y c e; ⟨a1, ⟨v, cl a2⟩, a3⟩, F.apart, ⟨_, hn', fun y b' e => ?_⟩, disj_cons F.disj ha, F.ext.trans k1 fun b hb => ?_⟩
    · by_cases hy : y = x
      · subst hy; rw [lk_self] at e; cases e
        exact ⟨fun _ => ⟨v, if_pos rfl, mv _ _ r⟩, fun z => (by rw [hl] at z; rcases z with z | z <;> cases z), v, mv _ _ r⟩
      · rw [lk_ne hy] at e
        obtain ⟨q1, q2, v', q3⟩ := hm y b' e
        exact ⟨fun z => let ⟨v, e1, e2⟩ := q1 z; ⟨v, (if_neg hy).trans e1, mv _ _ e2⟩, fun z => let ⟨c, v, e1, e2, e3⟩ := q2 z; ⟨c, v, e1, cl e2, mv _ _ e3⟩, v', mv _ _ q3⟩
    · have : b = env.locals := by simpa using hb
      subst this
      exact .inr F.loc.2
  · have hk : env.kindOf x = some .cell := hx.resolve_left hl
    obtain ⟨rfl, hcs⟩ := hc hk
    obtain ⟨c, hcc⟩ := Option.isSome_iff_exists.mp hcs
    obtain ⟨cT, ⟨v₀, cI⟩, cO⟩ := F.cells x c hcc
    obtain ⟨cO, cHe⟩ := cO rfl
    refine wpAny_storeName_cell F.kind hk hcc cI fun h' hv' hs => ?_
    obtain ⟨oc, ec, dc⟩ := id cI
    obtain ⟨oc', ec', dc'⟩ := id hv'
    have nd : ∀ o, s.heap.get? c = some o → ∀ es ep, o.data ≠ .dict es ep := fun o e es ep q => by rw [ec] at e; cases e; rw [dc] at q; cases q
    have k1 : Kp C [c] s.heap h' := Kp.sameBut hs (.head _) ec' fun o es ep e d => absurd d (nd o e es ep)
    have g : GI C h' := G.sameBut hs (F.av c cO).1 (fun z => cT (F.tT _ z)) fun o e ⟨vs, x, t, d, _⟩ => by rw [ec] at e; cases e; rw [dc] at d; cases d
    have mv : ∀ v b, Bears C T he O s.heap v b → Bears C T he O h' v b := fun v b z => z.moved (fun _ z => z)
      (fun a oa ea hca _ => ⟨(hs.2 a fun z => hca (z ▸ cO)).trans ea, hca⟩) fun a oa hca ea _ hf => (hs.2 a fun z => by
        rw [z, ec] at ea; cases ea; rcases hf with ⟨_, d, _⟩ | ⟨_, _, d⟩ <;> rw [dc] at d <;> cases d).trans ea
    have hLc : env.locals ≠ c := fun z => by rw [z, ec] at eL; cases eL; rw [dc] at dL; cases dL
    refine q h' s.toks (k1.mono (by simpa using cO)) g ⟨F.kind, F.glob, F.blt, F.tabs, F.tT, F.tO, F.sup, fun b hb => ⟨(F.av b hb).1, let ⟨o, e⟩ := (F.av b hb).2; k1.live b o e⟩, F.loc, fun y c' e => ?_, F.apart,
      ⟨mm, hn.sameBut hs hLc, fun y b' e => ?_⟩, disj_cons F.disj ha, F.ext.trans k1 fun b hb => ?_⟩
    · obtain ⟨a1, ⟨v, a2⟩, a3⟩ := F.cells y c' e
      by_cases hcc' : c' = c
      · subst hcc'; exact ⟨a1, ⟨_, hv'⟩, a3⟩
      · exact ⟨a1, ⟨v, a2.sameBut hs hcc'⟩, a3⟩
    · by_cases hy : y = x
      · subst hy; rw [lk_self] at e; cases e
        exact ⟨fun z => absurd z hl, fun _ => ⟨c, v, hcc, hv', mv _ _ r⟩, v, mv _ _ r⟩
      · rw [lk_ne hy] at e
        obtain ⟨q1, q2, v', q3⟩ := hm y b' e
        exact ⟨fun z => let ⟨v, e1, e2⟩ := q1 z; ⟨v, e1, mv _ _ e2⟩, fun z => let ⟨c', v, e1, e2, e3⟩ := q2 z; ⟨c', v, e1, e2.sameBut hs (fun w => hy (F.apart y x c' e1 (w ▸ hcc))), mv _ _ e3⟩, v', mv _ _ q3⟩
    · have : b = c := by simpa using hb
      subst this
      exact .inr cHe
/-- an owned list owned no more -/
theorem FS.freeze {x : Str} {a : Addr} {ds : List PyData} {h : Heap} (F : FS C T env he Oc O h fz m) (e : m.lookup x = some (.L a ds)) (hT : a ∉ T) : ∃ O', FS C T env he Oc O' h fz ((x, .d (.list ds)) :: m) := by
  obtain ⟨mm, hn, q⟩ := F.bear
  obtain ⟨_, _, v, q3⟩ := q x _ e
  obtain ⟨hv, hO, hCT, hH, vs, n, ho, hr⟩ := q3
  have hH := hH.resolve_right hT
  have hs : ∀ c ∈ O.filter (· ≠ a), c ∈ O := fun c hc => (List.mem_filter.mp hc).1
  have hin : ∀ {c}, c ∈ O → c ≠ a → c ∈ O.filter (· ≠ a) := fun h1 h2 => List.mem_filter.mpr ⟨h1, by simpa using h2⟩
  obtain ⟨oL, esL, epL, eL, dL, _⟩ := id hn
  have rp : ∀ {b vs ds}, RepG O h b vs ds → RepG (O.filter (· ≠ a)) h b vs ds := fun r => r.sub fun c hc => .inl (hs c hc)
  have mv : ∀ v b, b.addr ≠ some a → Bears C T he O h v b → Bears C T he (O.filter (· ≠ a)) h v b := by
    intro v b hb z
    cases b with
    | d y => exact rp z
    | v u => exact z
    | r u y => exact ⟨z.1, rp z.2⟩
    | L a' ds => obtain ⟨e, h1, h2, h3, vs, n, h4, h5⟩ := z; exact ⟨e, hin h1 (fun w => hb (w ▸ rfl)), h2, h3, vs, n, h4, rp h5⟩
    | ob a' P => obtain ⟨e, h1, h2, h3, o, h4, h5, h6⟩ := z; exact ⟨e, hin h1 (fun w => hb (w ▸ rfl)), h2, h3, o, h4, h5, h6⟩
  have own : Rep (O.filter (· ≠ a)) h (.ref a) (.list ds) := .list vs (by simp) ho (rp hr)
  refine ⟨O.filter (· ≠ a), F.kind, F.glob, F.blt, fun b hb => hin (F.tabs b hb) (fun z => hCT (z ▸ hb)), F.tT, F.tO, fun b hb => ⟨hin (F.sup b hb).1 fun z => ?_, (F.sup b hb).2⟩, fun b hb => F.av b (hs b hb),
    ⟨hin F.loc.1 fun z => ?_, F.loc.2⟩, fun y c ec => ?_, F.apart, ⟨mm, hn, fun y b ey => ?_⟩, disj_cons F.disj (.none rfl), F.ext⟩
  · obtain ⟨o, eo⟩ := (F.sup b hb).2; rw [z, hH] at eo; cases eo
  · rw [z, ho] at eL; cases eL; cases dL
  · obtain ⟨a1, ⟨v, a2⟩, a3⟩ := F.cells y c ec
    refine ⟨a1, ⟨v, a2⟩, fun z => ⟨hin (a3 z).1 fun z => ?_, (a3 z).2⟩⟩
    obtain ⟨o, eo, d⟩ := a2; rw [z, ho] at eo; cases eo; cases d
  · by_cases hy : y = x
    · subst hy; rw [lk_self] at ey; cases ey
      obtain ⟨q1, q2, _⟩ := q y _ e
      exact ⟨fun hl => let ⟨v, e1, e2⟩ := q1 hl; ⟨v, e1, e2.1 ▸ own⟩, fun hl => let ⟨c, v, e1, e2, e3⟩ := q2 hl; ⟨c, v, e1, e2, e3.1 ▸ own⟩, _, own⟩
    · rw [lk_ne hy] at ey
      obtain ⟨q1, q2, v, q3⟩ := q y b ey
      have hb : b.addr ≠ some a := fun z => hy (F.disj y x b _ a ey e z rfl)
      exact ⟨fun hl => let ⟨v, e1, e2⟩ := q1 hl; ⟨v, e1, mv _ _ hb e2⟩, fun hl => let ⟨c, v, e1, e2, e3⟩ := q2 hl; ⟨c, v, e1, e2, mv _ _ hb e3⟩, v, mv _ _ hb q3⟩
end

structure Sta (C : Cfg) : Prop where
  ns : ∀ h, GI C h → h.Ns mainGlobals C.mg ∧ h.Ns builtinsNs C.mb ∧ h.NoLimit
noncomputable def Glo (C : Cfg) (x : Str) (v : Value) : Prop := C.mg x = some v ∨ (C.mg x = none ∧ C.mb x = some v)

noncomputable abbrev Av (C : Cfg) (O : List Addr) (h : Heap) : Prop := (∀ b ∈ C.T, b ∈ O) ∧ ∀ b ∈ O, C.base b = none ∧ ∃ o, h.get? b = some o
theorem Av.kp {C : Cfg} {O O' : List Addr} {h h' : Heap} (a : Av C O h) (k : Kp C O' h h') : Av C O h' := ⟨a.1, fun b hb => ⟨(a.2 b hb).1, let ⟨o, e⟩ := (a.2 b hb).2; k.live b o e⟩⟩
theorem FS.avs {C : Cfg} {T : List Addr} {env : Env} {he : Heap} {Oc O : List Addr} {h : Heap} {fz : Bool} {m : Mp} (F : FS C T env he Oc O h fz m) : Av C O h := ⟨F.tabs, F.av⟩
theorem size_none (h : Heap) : h.get? h.objs.size = none := by
  cases e : h.get? h.objs.size with
  | none => rfl
  | some o => exact absurd (Heap.lt_size e) (Nat.lt_irrefl _)
theorem Av.fresh {C : Cfg} {O : List Addr} {h : Heap} (a : Av C O h) : h.objs.size ∉ O := fun q => let ⟨_, e⟩ := (a.2 _ q).2; Nat.lt_irrefl _ (Heap.lt_size e)

noncomputable abbrev Post (C : Cfg) (O : List Addr) (s : Shared) (d : PyData) (Q : Value → Shared → Prop) : Prop :=
  ∀ v h' tk, Kp C C.T s.heap h' → GI C h' → Rep O h' v d → Q v { s with heap := h', toks := tk }
noncomputable abbrev Posts (C : Cfg) (O : List Addr) (s : Shared) (ds : List PyData) (Q : List Value → Shared → Prop) : Prop :=
  ∀ vs h' tk, Kp C C.T s.heap h' → GI C h' → Reps O h' vs ds → Q vs { s with heap := h', toks := tk }
/-- a fresh list -/
noncomputable abbrev PostL (C : Cfg) (O : List Addr) (s : Shared) (ds : List PyData) (Q : Value → Shared → Prop) : Prop :=
  ∀ a h' tk vs n, s.heap.get? a = none → Kp C C.T s.heap h' → GI C h' → h'.get? a = some { cls := .type "list", data := .seq (List.toArray vs) n } → Reps (a :: O) h' vs ds → Q (.ref a) { s with heap := h', toks := tk }
theorem Post.here {C : Cfg} {O : List Addr} {s : Shared} {d : PyData} {Q : Value → Shared → Prop} (p : Post C O s d Q) (g : GI C s.heap) {v : Value} (tk : Nat) (r : Rep O s.heap v d) : Q v { s with toks := tk } :=
  p v s.heap tk (.refl ..) g r
theorem Post.new {C : Cfg} {O : List Addr} {s : Shared} {d : PyData} {Q : Value → Shared → Prop} (p : Post C O s d Q) (g : GI C s.heap) {v : Value} {o : Obj} (tk : Nat) (r : Rep O (s.heap.push o) v d) : Q v { s with heap := s.heap.push o, toks := tk } :=
  p v _ tk (.push ..) (g.push o) r
theorem Post.later {C : Cfg} {O : List Addr} {s : Shared} {d : PyData} {Q : Value → Shared → Prop} {h₁ : Heap} {tk : Nat} (p : Post C O s d Q) (k : Kp C C.T s.heap h₁) : Post C O { s with heap := h₁, toks := tk } d Q :=
  fun v h' tk k' g r => p v h' tk (k.trans' k') g r
theorem PostL.later {C : Cfg} {O : List Addr} {s : Shared} {ds : List PyData} {Q : Value → Shared → Prop} {h₁ : Heap} {tk : Nat} (p : PostL C O s ds Q) (k : Kp C C.T s.heap h₁) : PostL C O { s with heap := h₁, toks := tk } ds Q :=
  fun a h' tk vs n ha k' g e r => p a h' tk vs n (by
    cases e' : s.heap.get? a with
    | none => rfl
    | some o => obtain ⟨o', e''⟩ := k.live _ _ e'; rw [show h₁.get? a = none from ha] at e''; cases e'') (k.trans' k') g e r
theorem Post.ofL {C : Cfg} {O : List Addr} {s : Shared} {ds : List PyData} {Q : Value → Shared → Prop} (p : Post C O s (.list ds) Q) (av : Av C O s.heap) : PostL C O s ds Q :=
  fun a h' tk vs n ha k g e r => p _ h' tk k g (.list vs (fun z => by obtain ⟨_, o, e⟩ := av.2 a z; rw [ha] at e; cases e) e (r.sub fun c hc => .inl (List.mem_cons_of_mem _ hc)))
theorem PostL.new {C : Cfg} {O : List Addr} {s : Shared} {ds : List PyData} {Q : Value → Shared → Prop} (p : PostL C O s ds Q) (g : GI C s.heap) {vs : List Value} (tk : Nat) (r : Reps O s.heap vs ds) :
    Q (.ref s.heap.objs.size) { s with heap := s.heap.push { cls := .type "list", data := .seq vs.toArray }, toks := tk } :=
  p _ _ tk vs _ (size_none _) (.push ..) (g.push _) (Heap.get?_push_size _ rfl) (Kp.rep (C := C) (O' := []) (.push ..) (by simp) (r.sub fun c hc => (List.mem_cons.mp hc).elim (fun z => .inr (z ▸ size_none _)) .inl))
theorem Rep.newList {C : Cfg} {O : List Addr} {h : Heap} {vs : List Value} {ds : List PyData} (a : Av C O h) (r : Reps O h vs ds) : Rep O (h.push { cls := .type "list", data := .seq vs.toArray }) (.ref h.objs.size) (.list ds) :=
  .list vs a.fresh (Heap.get?_push_size _ rfl) (Kp.rep (C := C) (O' := []) (.push ..) (by simp) r)
theorem Rep.newTuple {C : Cfg} {O : List Addr} {h : Heap} {vs : List Value} {ds : List PyData} (a : Av C O h) (r : Reps O h vs ds) : Rep O (h.push { cls := .type "tuple", data := .seq vs.toArray }) (.ref h.objs.size) (.tuple ds) :=
  .tuple vs a.fresh (Heap.get?_push_size _ rfl) (Kp.rep (C := C) (O' := []) (.push ..) (by simp) r)

noncomputable def Ev (C : Cfg) (k : Nat) (env : Env) (m : Mp) (e : Expr) (d : PyData) : Prop :=
  ∀ (A : Around) (T : List Addr) (he : Heap) (Oc O : List Addr) (s : Shared) (fz : Bool) (Q E : Value → Shared → Prop),
    GI C s.heap → FS C T env he Oc O s.heap fz m → Room C k A s.heap → Post C O s d Q → wpAny C.M A (eval e env) Q E s
noncomputable def EvL (C : Cfg) (k : Nat) (env : Env) (m : Mp) (e : Expr) (ds : List PyData) : Prop :=
  ∀ (A : Around) (T : List Addr) (he : Heap) (Oc O : List Addr) (s : Shared) (fz : Bool) (Q E : Value → Shared → Prop),
    GI C s.heap → FS C T env he Oc O s.heap fz m → Room C k A s.heap → PostL C O s ds Q → wpAny C.M A (eval e env) Q E s
noncomputable def Evs (C : Cfg) (k : Nat) (env : Env) (m : Mp) (es : List Expr) (ds : List PyData) : Prop :=
  ∀ (A : Around) (T : List Addr) (he : Heap) (Oc O : List Addr) (s : Shared) (fz : Bool) (pos : Pos) (Q : List Value → Shared → Prop) (E : Value → Shared → Prop),
    GI C s.heap → FS C T env he Oc O s.heap fz m → Room C k A s.heap → Posts C O s ds Q → wpAny C.M A (spliced (backTo pos (starEach es env))) Q E s
/-- a name's value -/
noncomputable def EvB (C : Cfg) (k : Nat) (env : Env) (m : Mp) (e : Expr) (b : Bd) : Prop :=
  ∀ (A : Around) (T : List Addr) (he : Heap) (Oc O : List Addr) (s : Shared) (fz : Bool) (Q E : Value → Shared → Prop),
    GI C s.heap → FS C T env he Oc O s.heap fz m → Room C k A s.heap → (∀ v tk, Bears C T he O s.heap v b → Q v { s with toks := tk }) → wpAny C.M A (eval e env) Q E s
/-- a test -/
noncomputable def Te (C : Cfg) (k : Nat) (env : Env) (m : Mp) (e : Expr) (b : Bool) : Prop :=
  ∀ (A : Around) (T : List Addr) (he : Heap) (Oc O : List Addr) (s : Shared) (fz : Bool) (Q : Bool → Shared → Prop) (E : Value → Shared → Prop),
    GI C s.heap → FS C T env he Oc O s.heap fz m → Room C k A s.heap → (∀ h' tk, Kp C C.T s.heap h' → GI C h' → Q b { s with heap := h', toks := tk }) → wpAny C.M A (isTrue e env (eval e env)) Q E s

/-- operations on values -/
noncomputable def Op2 (C : Cfg) (t : Value → Value → Sem Value) (d₁ d₂ d : PyData) : Prop :=
  ∀ (A : Around) (O : List Addr) (s : Shared) (v₁ v₂ : Value) (Q E : Value → Shared → Prop), GI C s.heap → Av C O s.heap → Room C 0 A s.heap → Rep O s.heap v₁ d₁ → Rep O s.heap v₂ d₂ → Post C O s d Q → wpAny C.M A (t v₁ v₂) Q E s
noncomputable def Op2L (C : Cfg) (t : Value → Value → Sem Value) (d₁ d₂ : PyData) (ds : List PyData) : Prop :=
  ∀ (A : Around) (O : List Addr) (s : Shared) (v₁ v₂ : Value) (Q E : Value → Shared → Prop), GI C s.heap → Av C O s.heap → Room C 0 A s.heap → Rep O s.heap v₁ d₁ → Rep O s.heap v₂ d₂ → PostL C O s ds Q → wpAny C.M A (t v₁ v₂) Q E s
noncomputable def Op1 (C : Cfg) (t : Value → Sem Value) (d₁ d : PyData) : Prop :=
  ∀ (A : Around) (O : List Addr) (s : Shared) (v₁ : Value) (Q E : Value → Shared → Prop), GI C s.heap → Av C O s.heap → Room C 0 A s.heap → Rep O s.heap v₁ d₁ → Post C O s d Q → wpAny C.M A (t v₁) Q E s
noncomputable def Opn (C : Cfg) (k : Nat) (t : List Value → Sem Value) (ds : List PyData) (d : PyData) : Prop :=
  ∀ (A : Around) (O : List Addr) (s : Shared) (vs : List Value) (Q E : Value → Shared → Prop), GI C s.heap → Av C O s.heap → Room C k A s.heap → Reps O s.heap vs ds → Post C O s d Q → wpAny C.M A (t vs) Q E s
noncomputable def OpnL (C : Cfg) (k : Nat) (t : List Value → Sem Value) (ds : List PyData) (xs : List PyData) : Prop :=
  ∀ (A : Around) (O : List Addr) (s : Shared) (vs : List Value) (Q E : Value → Shared → Prop), GI C s.heap → Av C O s.heap → Room C k A s.heap → Reps O s.heap vs ds → PostL C O s xs Q → wpAny C.M A (t vs) Q E s
noncomputable def OpT (C : Cfg) (d₁ : PyData) (b : Bool) : Prop :=
  ∀ (A : Around) (O : List Addr) (s : Shared) (v₁ : Value) (Q : Bool → Shared → Prop) (E : Value → Shared → Prop), GI C s.heap → Rep O s.heap v₁ d₁ → (∀ tk, Q b { s with toks := tk }) → wpAny C.M A (truthy v₁) Q E s
theorem Op2L.op {C : Cfg} {t d₁ d₂ ds} (h : Op2L C t d₁ d₂ ds) : Op2 C t d₁ d₂ (.list ds) := fun A O s v₁ v₂ Q E g a R r₁ r₂ p => h A O s v₁ v₂ Q E g a R r₁ r₂ (p.ofL a)
theorem OpnL.op {C : Cfg} {k t ds xs} (h : OpnL C k t ds xs) : Opn C k t ds (.list xs) := fun A O s vs Q E g a R r p => h A O s vs Q E g a R r (p.ofL a)
theorem Opn.mono {C : Cfg} {k k' t ds d} (h : Opn C k t ds d) (hk : k ≤ k') : Opn C k' t ds d := fun A O s vs Q E g a R r p => h A O s vs Q E g a (R.le hk) r p
theorem OpnL.mono {C : Cfg} {k k' t ds d} (h : OpnL C k t ds d) (hk : k ≤ k') : OpnL C k' t ds d := fun A O s vs Q E g a R r p => h A O s vs Q E g a (R.le hk) r p

noncomputable def Loc (env : Env) (x : Str) : Prop := env.kindOf x = some .local ∨ env.kindOf x = some .cell ∨ env.kindOf x = some .free

section
variable {C : Cfg} {k : Nat} {env : Env} {m : Mp}

theorem EvL.ev {e : Expr} {ds : List PyData} (h : EvL C k env m e ds) : Ev C k env m e (.list ds) := fun A T he Oc O s fz Q E g F R p => h A T he Oc O s fz Q E g F R (p.ofL F.avs)
theorem Ev.mono {k' : Nat} {e : Expr} {d : PyData} (h : Ev C k env m e d) (hk : k ≤ k') : Ev C k' env m e d := fun A T he Oc O s fz Q E g F R p => h A T he Oc O s fz Q E g F (R.le hk) p
theorem Ev.sub {m' : Mp} {e : Expr} {d : PyData} (h : Ev C k env m e d) (hs : Sub m' m) : Ev C k env m' e d :=
  fun A T he Oc O s fz Q E g F R p => h A T he Oc O s fz Q E g (F.sub hs) R p
theorem Ev.cast {e : Expr} {d d' : PyData} (h : Ev C k env m e d') (hd : d' = d) : Ev C k env m e d := hd ▸ h

theorem EvB.name {x : Str} {pos : Pos} {b : Bd} (hx : m.lookup x = some b) (hl : Loc env x) (hd : (x == ("__debug__" : Str)) = false := by decide) (hc : (x == ("__classdict__" : Str)) = false := by decide) : EvB C k env m (.Name x pos) b := by
  intro A T he Oc O s fz Q E g F R p
  refine wpAny_Name ?_ hd
  obtain ⟨mm, n, hm⟩ := F.bear
  obtain ⟨q1, q2, _⟩ := hm x b hx
  by_cases hloc : env.kindOf x = some .local
  · obtain ⟨v, e, r⟩ := q1 hloc
    exact wpAny_loadName_local F.kind hloc n e (p _ s.toks r)
  · have hl := hl.resolve_left hloc
    obtain ⟨c, v, hcc, hI, r⟩ := q2 hl
    rcases hl with hk | hk
    · exact wpAny_loadName_cell F.kind hk hcc hI (p _ s.toks r)
    · exact wpAny_loadName_free F.kind hk hcc hI (p _ s.toks r) hc
theorem EvB.ev {e : Expr} {d : PyData} (h : EvB C k env m e (.d d)) : Ev C k env m e d := fun A T he Oc O s fz Q E g F R p => h A T he Oc O s fz Q E g F R fun v tk r => p.here g tk r
theorem EvB.evr {e : Expr} {u : Value} {d : PyData} (h : EvB C k env m e (.r u d)) : Ev C k env m e d := fun A T he Oc O s fz Q E g F R p => h A T he Oc O s fz Q E g F R fun v tk r => p.here g tk (r.1 ▸ r.2)
theorem Ev.name {x : Str} {pos : Pos} {d : PyData} (hx : m.lookup x = some (.d d)) (hl : Loc env x) (hd : (x == ("__debug__" : Str)) = false := by decide) (hc : (x == ("__classdict__" : Str)) = false := by decide) : Ev C k env m (.Name x pos) d := (EvB.name hx hl hd hc).ev
theorem EvB.glob {x : Str} {pos : Pos} {v : Value} (st : Sta C) (hk : env.kindOf x = some .globalImplicit) (hg : Glo C x v) (hd : (x == ("__debug__" : Str)) = false := by decide) : EvB C k env m (.Name x pos) (.v v) := by
  intro A T he Oc O s fz Q E g F R p
  obtain ⟨n1, n2, _⟩ := st.ns _ g
  rcases hg with hg | ⟨h1, h2⟩
  · exact Name_function_global F.kind hk (loadGlobal_global (F.glob ▸ n1) hg (p v s.toks rfl)) hd
  · exact Name_function_global F.kind hk (loadGlobal_builtin (F.glob ▸ n1) h1 (F.blt ▸ n2) h2 (p v s.toks rfl)) hd
theorem Ev.globd {x : Str} {pos : Pos} {v : Value} {d : PyData} (st : Sta C) (hk : env.kindOf x = some .globalImplicit) (hg : Glo C x v) (hv : ∀ O h, Rep O h v d) (hd : (x == ("__debug__" : Str)) = false := by decide) : Ev C k env m (.Name x pos) d :=
  fun A T he Oc O s fz Q E g F R p => EvB.glob st hk hg hd A T he Oc O s fz Q E g F R fun v' tk r => by cases r; exact p.here g tk (hv _ _)
theorem Ev.int {i : Int} {kk : Nat} {pos : Pos} : Ev C k env m (.Constant (.int i) kk pos) (.int i) := fun A T he Oc O s fz Q E g F R p => wpAny_Constant_int (p.here g _ (.int i _))
theorem Ev.str {x : Str} {kk : Nat} {pos : Pos} : Ev C k env m (.Constant (.str x) kk pos) (.str x) := fun A T he Oc O s fz Q E g F R p => wpAny_Constant_str (p.here g _ (.str x _))
theorem Ev.bool {b : Bool} {kk : Nat} {pos : Pos} : Ev C k env m (.Constant (.bool b) kk pos) (.bool b) := fun A T he Oc O s fz Q E g F R p => wpAny_Constant_bool (p.here g _ (.bool b))

theorem Ev.bin {l r : Expr} {op : Operator} {pos : Pos} {d₁ d₂ d : PyData} (hl : Ev C k env m l d₁) (hr : Ev C k env m r d₂) (ho : Op2 C (binaryOp op) d₁ d₂ d) : Ev C k env m (.BinOp l op r pos) d := by
  intro A T he Oc O s fz Q E g F R p
  refine wpAny_BinOp (hl A T he Oc O s fz _ _ g F R fun v h₁ tk k₁ g₁ r₁ => ?_)
  refine hr A T he Oc O _ fz _ _ g₁ (F.kp k₁) (R.kp k₁) fun v₂ h₂ tk₂ k₂ g₂ r₂ => ?_
  exact ho A O _ v v₂ Q E g₂ ((F.kp k₁).kp k₂).avs (((R.kp k₁).kp k₂).le (Nat.zero_le _)) (k₂.rep F.tabs r₁) r₂ ((p.later k₁).later k₂)
theorem EvL.bin {l r : Expr} {op : Operator} {pos : Pos} {d₁ d₂ : PyData} {ds : List PyData} (hl : Ev C k env m l d₁) (hr : Ev C k env m r d₂) (ho : Op2L C (binaryOp op) d₁ d₂ ds) : EvL C k env m (.BinOp l op r pos) ds := by
  intro A T he Oc O s fz Q E g F R p
  refine wpAny_BinOp (hl A T he Oc O s fz _ _ g F R fun v h₁ tk k₁ g₁ r₁ => ?_)
  refine hr A T he Oc O _ fz _ _ g₁ (F.kp k₁) (R.kp k₁) fun v₂ h₂ tk₂ k₂ g₂ r₂ => ?_
  exact ho A O _ v v₂ Q E g₂ ((F.kp k₁).kp k₂).avs (((R.kp k₁).kp k₂).le (Nat.zero_le _)) (k₂.rep F.tabs r₁) r₂ ((p.later k₁).later k₂)
theorem Ev.cmp {l r : Expr} {op : CmpOp} {pos : Pos} {d₁ d₂ d : PyData} (hl : Ev C k env m l d₁) (hr : Ev C k env m r d₂) (ho : Op2 C (compareOp op) d₁ d₂ d) (hm : behindInMarks op r = false := by with_unfolding_all rfl) : Ev C k env m (.Compare l [op] [r] pos) d := by
  intro A T he Oc O s fz Q E g F R p
  refine wpAny_Compare1 (hl A T he Oc O s fz _ _ g F R fun v h₁ tk k₁ g₁ r₁ => ?_) hm
  refine hr A T he Oc O _ fz _ _ g₁ (F.kp k₁) (R.kp k₁) fun v₂ h₂ tk₂ k₂ g₂ r₂ => ?_
  exact ho A O _ v v₂ Q E g₂ ((F.kp k₁).kp k₂).avs (((R.kp k₁).kp k₂).le (Nat.zero_le _)) (k₂.rep F.tabs r₁) r₂ ((p.later k₁).later k₂)
theorem Ev.un {x : Expr} {op : UnaryOp} {pos : Pos} {d₁ d : PyData} (hl : Ev C k env m x d₁) (ho : Op1 C (unaryOp op) d₁ d) : Ev C k env m (.UnaryOp op x pos) d := by
  intro A T he Oc O s fz Q E g F R p
  refine wpAny_UnaryOp (hl A T he Oc O s fz _ _ g F R fun v h₁ tk k₁ g₁ r₁ => ?_)
  exact ho A O _ v Q E g₁ (F.kp k₁).avs ((R.kp k₁).le (Nat.zero_le _)) r₁ (p.later k₁)
theorem Ev.ifexp {t x y : Expr} {pos : Pos} {b : Bool} {d : PyData} (ht : Te C k env m t b) (hx : b = true → Ev C k env m x d) (hy : b = false → Ev C k env m y d) : Ev C k env m (.IfExp t x y pos) d := by
  intro A T he Oc O s fz Q E g F R p
  refine wpAny_IfExp (ht A T he Oc O s fz _ _ g F R fun h₁ tk k₁ g₁ => ?_)
  cases b with
  | true => exact hx rfl A T he Oc O _ fz _ _ g₁ (F.kp k₁) (R.kp k₁) (p.later k₁)
  | false => exact hy rfl A T he Oc O _ fz _ _ g₁ (F.kp k₁) (R.kp k₁) (p.later k₁)
theorem Ev.and {x y : Expr} {pos : Pos} {d₁ d : PyData} {b : Bool} (hx : Ev C k env m x d₁) (ht : OpT C d₁ b) (h1 : b = true → Ev C k env m y d) (h2 : b = false → d = d₁) : Ev C k env m (.BoolOp .And [x, y] pos) d := by
  intro A T he Oc O s fz Q E g F R p
  refine wpAny_And2 (hx A T he Oc O s fz _ _ g F R fun v h₁ tk k₁ g₁ r₁ => ht A O _ v _ _ g₁ r₁ fun tk₂ => ?_)
  cases b with
  | true => exact h1 rfl A T he Oc O _ fz _ _ g₁ (F.kp k₁) (R.kp k₁) (p.later k₁)
  | false => cases h2 rfl; exact p v h₁ tk₂ k₁ g₁ r₁
theorem Ev.or {x y : Expr} {pos : Pos} {d₁ d : PyData} {b : Bool} (hx : Ev C k env m x d₁) (ht : OpT C d₁ b) (h1 : b = false → Ev C k env m y d) (h2 : b = true → d = d₁) : Ev C k env m (.BoolOp .Or [x, y] pos) d := by
  intro A T he Oc O s fz Q E g F R p
  refine wpAny_Or2 (hx A T he Oc O s fz _ _ g F R fun v h₁ tk k₁ g₁ r₁ => ht A O _ v _ _ g₁ r₁ fun tk₂ => ?_)
  cases b with
  | false => exact h1 rfl A T he Oc O _ fz _ _ g₁ (F.kp k₁) (R.kp k₁) (p.later k₁)
  | true => cases h2 rfl; exact p v h₁ tk₂ k₁ g₁ r₁

theorem Te.cmp {l r : Expr} {op : CmpOp} {pos : Pos} {d₁ d₂ : PyData} {b : Bool} (hl : Ev C k env m l d₁) (hr : Ev C k env m r d₂) (ho : Op2 C (compareOp op) d₁ d₂ (.bool b)) (hm : behindInMarks op r = false := by with_unfolding_all rfl) : Te C k env m (.Compare l [op] [r] pos) b := by
  intro A T he Oc O s fz Q E g F R p
  refine wpAny_isTrue_Compare1 (hl A T he Oc O s fz _ _ g F R fun v h₁ tk k₁ g₁ r₁ => ?_) hm
  refine hr A T he Oc O _ fz _ _ g₁ (F.kp k₁) (R.kp k₁) fun v₂ h₂ tk₂ k₂ g₂ r₂ => ?_
  refine ho A O _ v v₂ _ E g₂ ((F.kp k₁).kp k₂).avs (((R.kp k₁).kp k₂).le (Nat.zero_le _)) (k₂.rep F.tabs r₁) r₂ fun v₃ h₃ tk₃ k₃ g₃ r₃ => ?_
  cases r₃
  exact wpAny_truthy_bool (p h₃ tk₃ ((k₁.trans' k₂).trans' k₃) g₃)
theorem Te.val {e : Expr} {d : PyData} {b : Bool} (hl : Ev C k env m e d) (ht : OpT C d b) (he : ∀ whole, isTrue e env whole = (do let v ← whole; standAt e.pos; holding [v] (truthy v)) := by intro _; rfl) : Te C k env m e b := by
  intro A T he' Oc O s fz Q E g F R p
  refine wpAny_isTrue_value (hl A T he' Oc O s fz _ _ g F R fun v h₁ tk k₁ g₁ r₁ => ht A O _ v _ _ g₁ r₁ fun tk₂ => p h₁ tk₂ k₁ g₁) (he _)
theorem Te.not {x : Expr} {pos : Pos} {b : Bool} (h : Te C k env m x b) : Te C k env m (.UnaryOp .Not x pos) (!b) :=
  fun A T he Oc O s fz Q E g F R p => wpAny_isTrue_Not (h A T he Oc O s fz _ _ g F R p)
theorem Te.or2 {x y : Expr} {pos : Pos} {b₁ b₂ : Bool} (h1 : Te C k env m x b₁) (h2 : b₁ = false → Te C k env m y b₂) : Te C k env m (.BoolOp .Or [x, y] pos) (b₁ || b₂) := by
  intro A T he Oc O s fz Q E g F R p
  refine wpAny_isTrue_BoolOp (wpAny_allTrue_Or_cons (h1 A T he Oc O s fz _ _ g F R fun h₁ tk k₁ g₁ => ?_))
  cases b₁ with
  | true => exact p h₁ tk k₁ g₁
  | false =>
    refine wpAny_allTrue_Or_cons (h2 rfl A T he Oc O _ fz _ _ g₁ (F.kp k₁) (R.kp k₁) fun h₂ tk₂ k₂ g₂ => ?_)
    cases b₂ with
    | true => exact p h₂ tk₂ (k₁.trans' k₂) g₂
    | false => exact wpAny_allTrue_Or_nil (p h₂ tk₂ (k₁.trans' k₂) g₂)
theorem Te.and2 {x y : Expr} {pos : Pos} {b₁ b₂ : Bool} (h1 : Te C k env m x b₁) (h2 : b₁ = true → Te C k env m y b₂) : Te C k env m (.BoolOp .And [x, y] pos) (b₁ && b₂) := by
  intro A T he Oc O s fz Q E g F R p
  refine wpAny_isTrue_BoolOp (wpAny_allTrue_And_cons (h1 A T he Oc O s fz _ _ g F R fun h₁ tk k₁ g₁ => ?_))
  cases b₁ with
  | false => exact p h₁ tk k₁ g₁
  | true =>
    refine wpAny_allTrue_And_cons (h2 rfl A T he Oc O _ fz _ _ g₁ (F.kp k₁) (R.kp k₁) fun h₂ tk₂ k₂ g₂ => ?_)
    cases b₂ with
    | false => exact p h₂ tk₂ (k₁.trans' k₂) g₂
    | true => exact wpAny_allTrue_And_nil (p h₂ tk₂ (k₁.trans' k₂) g₂)
theorem Te.cast {e : Expr} {b b' : Bool} (h : Te C k env m e b') (hb : b' = b) : Te C k env m e b := hb ▸ h

theorem Evs.nil : Evs C k env m [] [] := fun A T he Oc O s fz pos Q E g F R p => wpAny_items_nil (p [] s.heap s.toks (.refl ..) g .nil)
theorem Evs.cons {e : Expr} {es : List Expr} {d : PyData} {ds : List PyData} (h1 : Ev C k env m e d) (h2 : Evs C k env m es ds) (hs : starEach (e :: es) env = (false, eval e env) :: starEach es env := by rfl) : Evs C k env m (e :: es) (d :: ds) := by
  intro A T he Oc O s fz pos Q E g F R p
  refine wpAny_items_cons (h1 A T he Oc O s fz _ _ g F R fun v h₁ tk k₁ g₁ r₁ => ?_) hs
  refine h2 A T he Oc O _ fz pos _ _ g₁ (F.kp k₁) (R.kp k₁) fun vs h₂ tk₂ k₂ g₂ r₂ => ?_
  exact p (v :: vs) h₂ tk₂ (k₁.trans' k₂) g₂ (.cons (k₂.rep F.tabs r₁) r₂)
theorem Ev.tuple {es : List Expr} {kk : Nat} {pos : Pos} {ds : List PyData} (h : Evs C k env m es ds) (hsz : ds.length ≤ sizeLine := by size_fits) : Ev C k env m (.Tuple es kk pos) (.tuple ds) := by
  intro A T he Oc O s fz Q E g F R p
  refine wpAny_Tuple (h A T he Oc O s fz pos _ _ g F R fun vs h₁ tk k₁ g₁ r₁ => ⟨by rw [r₁.length]; exact hsz, ?_⟩)
  exact (p.later (tk := tk) k₁).new g₁ _ (Rep.newTuple (F.kp k₁).avs r₁)
theorem EvL.list {es : List Expr} {pos : Pos} {ds : List PyData} (h : Evs C k env m es ds) (hsz : ds.length ≤ sizeLine := by size_fits) : EvL C k env m (.List es pos) ds := by
  intro A T he Oc O s fz Q E g F R p
  refine wpAny_List (h A T he Oc O s fz pos _ _ g F R fun vs h₁ tk k₁ g₁ r₁ => ⟨by rw [r₁.length]; exact hsz, ?_⟩)
  exact (p.later (tk := tk) k₁).new g₁ _ r₁

/-- a call's arguments -/
theorem evalArgs_all {M : Model} {A : Around} {E : Value → Shared → Prop} {s : Shared} {f : Value} {l : List (Bool × Sem Value)} {Q : Args → Shared → Prop} (hp : l.any (·.1) = false)
    (h : wpAny M A (spliced l) (fun vs s' => Q ⟨vs, []⟩ s') E s) : wpAny M A (evalArgs f true l []) Q E s := by
  match l with
  | [] =>
    unfold evalArgs
    show wpAny M A (spliced [] >>= _) Q E s
    refine wpAny_bind (wpAny_mono h (fun vs s' h' => ?_) fun _ _ x => x)
    refine wpAny_holding ?_
    exact wpAny_bind (wpAny_pure (wpAny_bind (wpAny_pure (wpAny_pure h'))))
  | (false, x) :: rest => exact evalArgs_plain h
  | (true, x) :: rest => simp at hp
noncomputable def NoStar (es : List Expr) : Prop := ∀ (pos : Pos) env, (backTo pos (starEach es env)).any (·.1) = false
theorem NoStar.nil : NoStar [] := fun _ _ => rfl
theorem NoStar.cons {e : Expr} {es : List Expr} (h : NoStar es) (hs : ∀ env, starEach (e :: es) env = (false, eval e env) :: starEach es env := by intro _; rfl) : NoStar (e :: es) := fun pos env => by
  rw [hs]; show (false || (backTo pos (starEach es env)).any (·.1)) = false; rw [h pos env]; rfl
/-- a callee -/
inductive Fn (C : Cfg) : Value → Prop
  | fn (a : Addr) (h : ∀ h, GI C h → ∃ o fd, h.get? a = some o ∧ o.data = .func fd) : Fn C (.ref a)
  | bi (id : String) : Fn C (.builtin id)
  | ty (T : String) : Fn C (.type T)
theorem callWith_fn {f : Value} (hf : Fn C f) {A : Around} {pos : Pos} {args : List (Bool × Sem Value)} {Q E : Value → Shared → Prop} {s : Shared} (hp : args.any (·.1) = false)
    (h : wpAny C.M A (spliced args) (fun vs s₁ => GI C s₁.heap ∧ wpAny C.M A (call f vs) Q E s₁) E s) : wpAny C.M A (callWith pos f [] args []) Q E s := by
  cases hf with
  | fn a hx =>
    unfold callWith
    refine wpAny_bind (wpAny_holding (evalArgs_all hp (wpAny_mono h (fun vs s₁ h₁ => wpAny_bind (wpAny_standAt ?_)) fun _ _ x => x)))
    have tail : ∀ {t : Sem Value}, wpAny C.M A t Q E s₁ → wpAny C.M A (t >>= fun r => holding [r] point >>= fun _ => pure r) Q E s₁ :=
      fun ht => wpAny_bind (wpAny_mono ht (fun r s₂ hr => wpAny_bind (wpAny_holding (wpAny_point (wpAny_pure hr)))) fun _ _ x => x)
    obtain ⟨o, fd, ho, hd⟩ := hx _ h₁.1
    simp only [hp, List.any_nil, Bool.or_false]
    refine wpAny_bind (m := keeperOf (.ref a)) ?_
    unfold keeperOf
    refine wpAny_bind (wpAny_load ho ?_)
    rw [hd]
    refine wpAny_pure ?_
    first
      | refine wpAny_ite ?_
      | skip
    split <;> first
      | exact tail h₁.2
      | exact tail (by unfold callMarked; exact wpAny_keep h₁.2)
  | bi id => exact callWith_builtin hp (evalArgs_all hp (wpAny_mono h (fun vs s₁ h₁ => h₁.2) fun _ _ x => x))
  | ty T => exact PySem.callWith_type hp (evalArgs_all hp (wpAny_mono h (fun vs s₁ h₁ => h₁.2) fun _ _ x => x))
theorem Ev.call {x : Str} {p pos : Pos} {args : List Expr} {f : Value} {ds : List PyData} {d : PyData} {k' : Nat} (hf : EvB C k env m (.Name x p) (.v f)) (hfn : Fn C f) (ha : Evs C k env m args ds) (hns : NoStar args)
    (ho : Opn C k' (fun vs => PySem.call f vs) ds d) (hk : k' ≤ k := by omega) : Ev C k env m (.Call (.Name x p) args [] pos) d := by
  intro A T he Oc O s fz Q E g F R p'
  refine wpAny_Call_Name_kw (hf A T he Oc O s fz _ _ g F R fun v tk r => ?_)
  cases r
  refine callWith_fn hfn (hns _ _) (ha A T he Oc O _ fz pos _ _ g F R fun vs h₁ tk₁ k₁ g₁ r₁ => ⟨g₁, ?_⟩)
  exact ho A O _ vs Q E g₁ (F.kp k₁).avs ((R.kp k₁).le hk) r₁ (Post.later (s := s) (tk := tk₁) p' k₁)
theorem EvL.call {x : Str} {p pos : Pos} {args : List Expr} {f : Value} {ds : List PyData} {d : List PyData} {k' : Nat} (hf : EvB C k env m (.Name x p) (.v f)) (hfn : Fn C f) (ha : Evs C k env m args ds) (hns : NoStar args)
    (ho : OpnL C k' (fun vs => PySem.call f vs) ds d) (hk : k' ≤ k := by omega) : EvL C k env m (.Call (.Name x p) args [] pos) d := by
  intro A T he Oc O s fz Q E g F R p'
  refine wpAny_Call_Name_kw (hf A T he Oc O s fz _ _ g F R fun v tk r => ?_)
  cases r
  refine callWith_fn hfn (hns _ _) (ha A T he Oc O _ fz pos _ _ g F R fun vs h₁ tk₁ k₁ g₁ r₁ => ⟨g₁, ?_⟩)
  exact ho A O _ vs Q E g₁ (F.kp k₁).avs ((R.kp k₁).le hk) r₁ (PostL.later (s := s) (tk := tk₁) p' k₁)

/-- a method of a built-in kind -/
structure Meth (name : Str) (T id : String) : Prop where
  pa : PlainAttrs T
  slot : Slot T name id
  ty : typeOf (.builtin id) = pure (.type "method_descriptor")
noncomputable def KindOf : PyData → String → Prop
  | .int _, T => T = "int"
  | .str _, T => T = "str"
  | .list _, T => T = "list"
  | _, _ => False
theorem Rep.typeIs {O : List Addr} {s : Shared} {v : Value} {d : PyData} {T : String} (r : Rep O s.heap v d) (hT : KindOf d T) : s.TypeIs v T ∧ ∀ a, v = .ref a → ∃ o, s.heap.get? a = some o ∧ o.dict = none := by
  cases d with
  | int i => cases hT; exact r.int_ fun _ => ⟨typeIs_int _ _ _, nofun⟩
  | str x => cases hT; exact r.str_ fun _ => ⟨typeIs_str _ _ _, nofun⟩
  | list xs => cases hT; exact r.list_ fun _ _ vs hn ho hr => ⟨⟨_, ho, rfl⟩, fun a e => by cases e; exact ⟨_, ho, rfl⟩⟩
  | _ => exact hT.elim
theorem callWith_meth {id : String} {ov : Value} {A : Around} {pos : Pos} {args : List (Bool × Sem Value)} {Q E : Value → Shared → Prop} {s : Shared} (hp : args.any (·.1) = false)
    (h : wpAny C.M A (spliced args) (fun vs s₁ => wpAny C.M A (call (.builtin id) (ov :: vs)) Q E s₁) E s) : wpAny C.M A (callWith pos (.builtin id) [ov] args []) Q E s :=
  callWith_builtin hp (evalArgs_all hp h)
theorem few_of {pos : Pos} {args : List Expr} (hns : NoStar args) (hl : args.length < 20) : ((backTo pos (starEach args env)).all (fun x => !x.1) && (backToKw pos (keywordEach [] env)).all (fun x => x.1.isSome)
      && decide (args.length + ([] : List Keyword).length + (if ([] : List Keyword).isEmpty then 0 else 1) < 30)) = true := by
  have h1 : (backTo pos (starEach args env)).all (fun x => !x.1) = true := by
    have := hns pos env
    rw [List.all_eq_not_any_not, Bool.not_eq_true']
    simpa using this
  rw [h1]
  show (true && true && decide (args.length + 0 + 0 < 30)) = true
  simp; omega
theorem Ev.meth {o : Expr} {name : Str} {apos pos : Pos} {args : List Expr} {T id : String} {d₀ d : PyData} {ds : List PyData} (M : Meth name T id) (h0 : Ev C k env m o d₀) (hT : KindOf d₀ T) (ha : Evs C k env m args ds) (hns : NoStar args)
    (ho : Opn C k (fun vs => PySem.call (.builtin id) vs) (d₀ :: ds) d) (hl : args.length < 20 := by decide) (hbase : attributeBase o name env (eval o env) = eval o env := by rfl) (hline : (apos.endLine == pos.line) = true := by rfl) :
    Ev C k env m (.Call (.Attribute o name apos) args [] pos) d := by
  intro A T' he Oc O s fz Q E g F R p
  refine wpAny_Call_method hbase (few_of hns hl) hline M.pa M.slot M.ty (h0 A T' he Oc O s fz _ _ g F R fun v h₁ tk k₁ g₁ r₁ => ?_)
  obtain ⟨t1, t2⟩ := Rep.typeIs (s := { s with heap := h₁, toks := tk }) r₁ hT
  refine ⟨t1, t2, callWith_meth (hns _ _) (ha A T' he Oc O _ fz pos _ _ g₁ (F.kp k₁) (R.kp k₁) fun vs h₂ tk₂ k₂ g₂ r₂ => ?_)⟩
  exact ho A O _ (v :: vs) Q E g₂ ((F.kp k₁).kp k₂).avs ((R.kp k₁).kp k₂) (.cons (k₂.rep F.tabs r₁) r₂) ((p.later k₁).later k₂)
theorem EvL.meth {o : Expr} {name : Str} {apos pos : Pos} {args : List Expr} {T id : String} {d₀ : PyData} {ds d : List PyData} (M : Meth name T id) (h0 : Ev C k env m o d₀) (hT : KindOf d₀ T) (ha : Evs C k env m args ds) (hns : NoStar args)
    (ho : OpnL C k (fun vs => PySem.call (.builtin id) vs) (d₀ :: ds) d) (hl : args.length < 20 := by decide) (hbase : attributeBase o name env (eval o env) = eval o env := by rfl) (hline : (apos.endLine == pos.line) = true := by rfl) :
    EvL C k env m (.Call (.Attribute o name apos) args [] pos) d := by
  intro A T' he Oc O s fz Q E g F R p
  refine wpAny_Call_method hbase (few_of hns hl) hline M.pa M.slot M.ty (h0 A T' he Oc O s fz _ _ g F R fun v h₁ tk k₁ g₁ r₁ => ?_)
  obtain ⟨t1, t2⟩ := Rep.typeIs (s := { s with heap := h₁, toks := tk }) r₁ hT
  refine ⟨t1, t2, callWith_meth (hns _ _) (ha A T' he Oc O _ fz pos _ _ g₁ (F.kp k₁) (R.kp k₁) fun vs h₂ tk₂ k₂ g₂ r₂ => ?_)⟩
  exact ho A O _ (v :: vs) Q E g₂ ((F.kp k₁).kp k₂).avs ((R.kp k₁).kp k₂) (.cons (k₂.rep F.tabs r₁) r₂) ((p.later k₁).later k₂)
end

section
variable {C : Cfg} {a b : Int} {x y : Str}

theorem op_add : Op2 C (binaryOp .Add) (.int a) (.int b) (.int (a + b)) := fun A O s v₁ v₂ Q E g av R r₁ r₂ p => r₁.int_ fun _ => r₂.int_ fun _ => add_int (p.here g _ (.int _ _))
theorem op_iadd : Op2 C (inplaceOp .Add) (.int a) (.int b) (.int (a + b)) := fun A O s v₁ v₂ Q E g av R r₁ r₂ p => r₁.int_ fun _ => r₂.int_ fun _ => iadd_int (p.here g _ (.int _ _))
theorem op_sub : Op2 C (binaryOp .Sub) (.int a) (.int b) (.int (a - b)) := fun A O s v₁ v₂ Q E g av R r₁ r₂ p => r₁.int_ fun _ => r₂.int_ fun _ => sub_int (p.here g _ (.int _ _))
theorem op_isub : Op2 C (inplaceOp .Sub) (.int a) (.int b) (.int (a - b)) := fun A O s v₁ v₂ Q E g av R r₁ r₂ p => r₁.int_ fun _ => r₂.int_ fun _ => isub_int (p.here g _ (.int _ _))
theorem op_mul (hm : IntMulOk a b) : Op2 C (binaryOp .Mult) (.int a) (.int b) (.int (a * b)) := fun A O s v₁ v₂ Q E g av R r₁ r₂ p => r₁.int_ fun _ => r₂.int_ fun _ => mul_int (p.here g _ (.int _ _)) hm
theorem op_floordiv (hb : b ≠ 0) (hp : Builtin.divisionGoesByPylong a b = false) : Op2 C (binaryOp .FloorDiv) (.int a) (.int b) (.int (a.fdiv b)) := fun A O s v₁ v₂ Q E g av R r₁ r₂ p => r₁.int_ fun _ => r₂.int_ fun _ => floordiv_int hb (p.here g _ (.int _ _)) (.inl hp)
theorem op_mod (hb : b ≠ 0) : Op2 C (binaryOp .Mod) (.int a) (.int b) (.int (a.fmod b)) := fun A O s v₁ v₂ Q E g av R r₁ r₂ p => r₁.int_ fun _ => r₂.int_ fun _ => mod_int' hb (p.here g _ (.int _ _))
theorem op_lshift (hb : 0 ≤ b) (hs : (Builtin.Int.intBits a : Int) + b ≤ 2 ^ 27) : Op2 C (binaryOp .LShift) (.int a) (.int b) (.int (a * 2 ^ b.toNat)) := fun A O s v₁ v₂ Q E g av R r₁ r₂ p => r₁.int_ fun _ => r₂.int_ fun _ => lshift_int hb hs (p.here g _ (.int _ _))
theorem op_ilshift (hb : 0 ≤ b) (hs : (Builtin.Int.intBits a : Int) + b ≤ 2 ^ 27) : Op2 C (inplaceOp .LShift) (.int a) (.int b) (.int (a * 2 ^ b.toNat)) := fun A O s v₁ v₂ Q E g av R r₁ r₂ p => r₁.int_ fun _ => r₂.int_ fun _ => ilshift_int hb hs (p.here g _ (.int _ _))
theorem op_rshift (hb : 0 ≤ b) : Op2 C (binaryOp .RShift) (.int a) (.int b) (.int (a.fdiv (2 ^ b.toNat))) := fun A O s v₁ v₂ Q E g av R r₁ r₂ p => r₁.int_ fun _ => r₂.int_ fun _ => rshift_int hb (p.here g _ (.int _ _))
theorem op_irshift (hb : 0 ≤ b) : Op2 C (inplaceOp .RShift) (.int a) (.int b) (.int (a.fdiv (2 ^ b.toNat))) := fun A O s v₁ v₂ Q E g av R r₁ r₂ p => r₁.int_ fun _ => r₂.int_ fun _ => irshift_int hb (p.here g _ (.int _ _))
theorem op_pow (hb : 0 ≤ b) (hs : (Builtin.Int.intBits a : Int) * b ≤ 2 ^ 27) : Op2 C (binaryOp .Pow) (.int a) (.int b) (.int (a ^ b.toNat)) := fun A O s v₁ v₂ Q E g av R r₁ r₂ p => r₁.int_ fun _ => r₂.int_ fun _ => pow_int hb hs (p.here g _ (.int _ _))
theorem op_and : Op2 C (binaryOp .BitAnd) (.int a) (.int b) (.int (Builtin.bitAnd a b)) := fun A O s v₁ v₂ Q E g av R r₁ r₂ p => r₁.int_ fun _ => r₂.int_ fun _ => and_int (p.here g _ (.int _ _))
theorem op_or : Op2 C (binaryOp .BitOr) (.int a) (.int b) (.int (Builtin.bitOr a b)) := fun A O s v₁ v₂ Q E g av R r₁ r₂ p => r₁.int_ fun _ => r₂.int_ fun _ => or_int (p.here g _ (.int _ _))
theorem op_ior : Op2 C (inplaceOp .BitOr) (.int a) (.int b) (.int (Builtin.bitOr a b)) := fun A O s v₁ v₂ Q E g av R r₁ r₂ p => r₁.int_ fun _ => r₂.int_ fun _ => ior_int (p.here g _ (.int _ _))
theorem op_xor : Op2 C (binaryOp .BitXor) (.int a) (.int b) (.int (Builtin.bitXor a b)) := fun A O s v₁ v₂ Q E g av R r₁ r₂ p => r₁.int_ fun _ => r₂.int_ fun _ => xor_int (p.here g _ (.int _ _))
theorem op_neg : Op1 C (unaryOp .USub) (.int a) (.int (-a)) := fun A O s v₁ Q E g av R r₁ p => r₁.int_ fun _ => neg_int (p.here g _ (.int _ _))
theorem op_inv : Op1 C (unaryOp .Invert) (.int a) (.int (Builtin.bitNot a)) := fun A O s v₁ Q E g av R r₁ p => r₁.int_ fun _ => invert_int (p.here g _ (.int _ _))
theorem op_eq : Op2 C (compareOp .Eq) (.int a) (.int b) (.bool (a == b)) := fun A O s v₁ v₂ Q E g av R r₁ r₂ p => r₁.int_ fun _ => r₂.int_ fun _ => eq_int (p.here g s.toks (.bool _))
theorem op_ne : Op2 C (compareOp .NotEq) (.int a) (.int b) (.bool (a != b)) := fun A O s v₁ v₂ Q E g av R r₁ r₂ p => r₁.int_ fun _ => r₂.int_ fun _ => ne_int (p.here g s.toks (.bool _))
theorem op_lt : Op2 C (compareOp .Lt) (.int a) (.int b) (.bool (decide (a < b))) := fun A O s v₁ v₂ Q E g av R r₁ r₂ p => r₁.int_ fun _ => r₂.int_ fun _ => lt_int (p.here g s.toks (.bool _))
theorem op_le : Op2 C (compareOp .LtE) (.int a) (.int b) (.bool (decide (a ≤ b))) := fun A O s v₁ v₂ Q E g av R r₁ r₂ p => r₁.int_ fun _ => r₂.int_ fun _ => le_int (p.here g s.toks (.bool _))
theorem op_gt : Op2 C (compareOp .Gt) (.int a) (.int b) (.bool (decide (a > b))) := fun A O s v₁ v₂ Q E g av R r₁ r₂ p => r₁.int_ fun _ => r₂.int_ fun _ => gt_int (p.here g s.toks (.bool _))
theorem op_ge : Op2 C (compareOp .GtE) (.int a) (.int b) (.bool (decide (a ≥ b))) := fun A O s v₁ v₂ Q E g av R r₁ r₂ p => r₁.int_ fun _ => r₂.int_ fun _ => ge_int (p.here g s.toks (.bool _))
theorem op_eqs : Op2 C (compareOp .Eq) (.str x) (.str y) (.bool (x == y)) := fun A O s v₁ v₂ Q E g av R r₁ r₂ p => r₁.str_ fun _ => r₂.str_ fun _ => eq_str (p.here g s.toks (.bool _))
/-- any data compared -/
noncomputable def Shp (d : PyData) : Prop := d.canLay0 = true ∧ d.depth ≤ 900
theorem op_eqd {d₁ d₂ : PyData} (h1 : Shp d₁) (h2 : Shp d₂) : Op2 C (compareOp .Eq) d₁ d₂ (.bool (PyData.eqv d₁ d₂)) := fun A O s v₁ v₂ Q E g av R r₁ r₂ p => by
  obtain ⟨as, q1⟩ := r₁.reads; obtain ⟨bs, q2⟩ := r₂.reads
  refine SeqAt.compareEq_reads q1 q2 h1.1 h2.1 ?_ (p.here g s.toks (.bool _))
  have := R.units; have := Nat.min_le_left d₁.depth d₂.depth; have := h1.2; omega
theorem op_ned {d₁ d₂ : PyData} (h1 : Shp d₁) (h2 : Shp d₂) : Op2 C (compareOp .NotEq) d₁ d₂ (.bool (!PyData.eqv d₁ d₂)) := fun A O s v₁ v₂ Q E g av R r₁ r₂ p => by
  obtain ⟨as, q1⟩ := r₁.reads; obtain ⟨bs, q2⟩ := r₂.reads
  refine SeqAt.compareNe_reads q1 q2 h1.1 h2.1 ?_ (p.here g s.toks (.bool _))
  have := R.units; have := Nat.min_le_left d₁.depth d₂.depth; have := h1.2; omega
theorem op_isb {u v : Bool} : Op2 C (compareOp .Is) (.bool u) (.bool v) (.bool (u == v)) := fun A O s v₁ v₂ Q E g av R r₁ r₂ p => by
  refine r₁.bool_ (r₂.bool_ ?_)
  exact wpAny_is_plain (by cases u <;> cases v <;> rfl) (by
    have e : ((Value.bool u) == (Value.bool v)) = (u == v) := by cases u <;> cases v <;> rfl
    rw [e]; exact p.here g s.toks (.bool _))
theorem op_isnotb {u v : Bool} : Op2 C (compareOp .IsNot) (.bool u) (.bool v) (.bool (!(u == v))) := fun A O s v₁ v₂ Q E g av R r₁ r₂ p => by
  refine r₁.bool_ (r₂.bool_ ?_)
  first
    | exact wpAny_isNot_plain (by cases u <;> cases v <;> rfl) (by
        have e : (!((Value.bool u) == (Value.bool v))) = (!(u == v)) := by cases u <;> cases v <;> rfl
        first | (rw [e]; exact p.here g s.toks (.bool _)) | exact e ▸ p.here g s.toks (.bool _))
theorem op_ins : Op2 C (compareOp .In) (.str y) (.str x) (.bool (!(Builtin.Str.occurrences x y 0 x.length 1).isEmpty)) := fun A O s v₁ v₂ Q E g av R r₁ r₂ p => r₁.str_ fun _ => r₂.str_ fun _ => P.in_str (p.here g s.toks (.bool _))
theorem op_notins : Op2 C (compareOp .NotIn) (.str y) (.str x) (.bool (!(!(Builtin.Str.occurrences x y 0 x.length 1).isEmpty))) := fun A O s v₁ v₂ Q E g av R r₁ r₂ p => r₁.str_ fun _ => r₂.str_ fun _ => P.notIn_str (p.here g s.toks (.bool _))
theorem op_adds (hs : x.length + y.length ≤ sizeLine) : Op2 C (binaryOp .Add) (.str x) (.str y) (.str (x ++ y)) := fun A O s v₁ v₂ Q E g av R r₁ r₂ p => r₁.str_ fun _ => r₂.str_ fun _ => add_str (fun t' tk => p.here g tk (.str _ t')) hs

theorem t_bool {c : Bool} : OpT C (.bool c) c := fun A O s v Q E g r p => r.bool_ (wpAny_truthy_bool (p s.toks))
theorem t_int : OpT C (.int a) (a != 0) := fun A O s v Q E g r p => r.int_ fun _ => truthy_int (p s.toks)
theorem t_str (hs : x.length ≤ sizeLine) : OpT C (.str x) ((x.length : Int) != 0) := fun A O s v Q E g r p => by
  exact r.str_ fun _ => P.truthy_str (by rw [sizeLine_eq] at hs; omega) (p _)
theorem t_list {xs : List PyData} (hs : xs.length ≤ sizeLine) : OpT C (.list xs) (!xs.isEmpty) := fun A O s v Q E g r p => by
  refine r.list_ fun _ _ vs hn ho hr => ?_
  · have hl := hr.length
    refine wpAny_truthy_list (l := _) (items := vs.toArray) ⟨_, ho, rfl, _, rfl⟩ (by rw [sizeLine_eq] at hs; simp; omega) ?_
    have e : (!vs.toArray.isEmpty) = !xs.isEmpty := by
      cases vs <;> cases xs <;> simp_all
    rw [e]; exact p _
theorem op_nott {d : PyData} {c : Bool} (h : OpT C d c) : Op1 C (unaryOp .Not) d (.bool !c) := fun A O s v Q E g av R r p => not_of (h A O s v _ _ g r fun tk => p.here g tk (.bool _))

theorem Rep.isList {O : List Addr} {h : Heap} {v : Value} {xs : List PyData} (r : Rep O h v (.list xs)) : ∃ l vs, v = .ref l ∧ l ∉ O ∧ (∃ n, h.get? l = some { cls := .type "list", data := .seq (List.toArray vs) n }) ∧ h.IsList l vs.toArray ∧ Reps O h vs xs := 
  r.list_ fun a n vs hn ho hr => ⟨_, vs, rfl, hn, ⟨_, ho⟩, ⟨_, ho, rfl, _, rfl⟩, hr⟩
end

section
variable {C : Cfg} {a b : Int} {x y : Str}
theorem op_addl {xs ys : List PyData} (hs : xs.length + ys.length ≤ sizeLine) : Op2L C (binaryOp .Add) (.list xs) (.list ys) (xs ++ ys) := fun A O s v₁ v₂ Q E g av R r₁ r₂ p => by
  refine r₁.list_ fun _ _ vs hn ho hr => r₂.list_ fun _ _ ws hn2 ho2 hr2 => ?_
  · · have e : vs.toArray ++ ws.toArray = (vs ++ ws).toArray := by simp
      have hsz : vs.toArray.size + ws.toArray.size ≤ sizeLine := by simp [hr.length, hr2.length]; exact hs
      refine concat_meets ⟨_, ho, rfl⟩ ⟨_, ho2, rfl⟩ noFill_list_add seq_list_add PySem.F.slot_list_add PySem.F.entry_list_add (PySem.F.args_list_add_2 _ _) (list_addW _ _ vs.toArray ws.toArray _ _ none none #[] #[] hsz) ⟨ho, ho2, ?_⟩
      rw [e]
      exact p.new g _ (Reps.append hr2 hr)
theorem Reps.replicate {O : List Addr} {h : Heap} {v : Value} {d : PyData} (r : Rep O h v d) : ∀ n, Reps O h (List.replicate n v) (List.replicate n d)
  | 0 => .nil
  | n + 1 => .cons r (Reps.replicate r n)
theorem foldl_cat (v : Value) : ∀ (n : Nat) (acc : Array Value), List.foldl (fun x1 x2 => x1 ++ x2) acc (List.replicate n #[v]) = acc ++ (List.replicate n v).toArray
  | 0, acc => by simp
  | n + 1, acc => by
    rw [List.replicate_succ, List.foldl_cons, foldl_cat v n]
    apply Array.ext'
    simp [List.replicate_succ]
/-- [d] * n -/
theorem op_mul1 {d : PyData} {n : Int} (h0 : 0 ≤ n) (hn : n ≤ 2 ^ 24) : Op2L C (binaryOp .Mult) (.list [d]) (.int n) (List.replicate n.toNat d) := fun A O s v₁ v₂ Q E g av R r₁ r₂ p => by
  refine r₂.int_ fun u => r₁.list_ fun l k vs hnl ho hr => ?_
  revert ho
  refine hr.one_ fun v h1 ho => ?_
  · · have hsz : ([v].toArray : Array Value).size * n.toNat ≤ 2 ^ 24 := by simp; omega
      refine wpAny_binaryOp_repeat_ref (T := "list") (U := "int") (by decide) ⟨_, ho, rfl⟩ (fun s' => typeIs_int s' n u) noFill_list_mul PySem.F.fills_int_mul PySem.F.slot_int_rmul repeat_list PySem.F.slot_int_index.lookup
        (call_meets PySem.F.slot_int_rmul (typeIs_int s n u) PySem.F.entry_int_rmul (PySem.F.args_int_rmul_2 _ _) (int___rmul___int_list n u l [v].toArray k)
          ⟨ho, rfl, ⟨_, ho, rfl⟩, call_meets PySem.F.slot_list_mul ⟨_, ho, rfl⟩ PySem.F.entry_list_mul (PySem.F.args_list_mul_2 _ _)
            (AutoListH.list___mul___list_int_3 l [v].toArray k n u (by simp [Builtin.List.listFitsIndex]; omega) (by omega) (by simp [Builtin.List.listTooLong, sizeLine]; omega))
            ⟨ho, ?_⟩⟩)
      have e : List.foldl (fun x1 x2 => x1 ++ x2) #[] (List.replicate (if ([v].toArray : Array Value).isEmpty = true then 0 else n.toNat) [v].toArray) = (List.replicate n.toNat v).toArray := by
        rw [if_neg (by simp)]
        exact (foldl_cat v n.toNat #[]).trans (by simp)
      rw [e]
      exact p.new g _ (Reps.replicate h1 _)

theorem call_len_l {k : Nat} {xs : List PyData} (hs : xs.length ≤ sizeLine) : Opn C k (fun vs => PySem.call (.builtin "len") vs) [.list xs] (.int xs.length) := fun A O s vs Q E g av R r p => by
  refine r.one_ fun v h1 => h1.list_ fun _ _ ws hn ho hr => ?_
  · · refine call_len_list (items := ws.toArray) ⟨_, ho, rfl, _, rfl⟩ (by rw [sizeLine_eq] at hs; simp [hr.length]; omega) ?_
      have e : ((ws.toArray.size : Nat) : Int) = (xs.length : Int) := by simp [hr.length]
      rw [e]
      exact p.here g _ (.int _ _)
theorem call_len_s {k : Nat} (hs : x.length ≤ sizeLine) : Opn C k (fun vs => PySem.call (.builtin "len") vs) [.str x] (.int x.length) := fun A O s vs Q E g av R r p => by
  exact r.one_ fun v h1 => h1.str_ fun _ => P.len_str (by rw [sizeLine_eq] at hs; omega) (p.here g _ (.int _ _))
theorem call_abs {k : Nat} : Opn C k (fun vs => PySem.call (.builtin "abs") vs) [.int a] (.int (if a < 0 then -a else a)) := fun A O s vs Q E g av R r p => by
  exact r.one_ fun v h1 => h1.int_ fun _ => call_abs_int fun u tk => p.here g _ (.int _ _)
theorem call_chr {k : Nat} (h0 : 0 ≤ a) (h1 : a ≤ 1114111) : Opn C k (fun vs => PySem.call (.builtin "chr") vs) [.int a] (.str ⟨#[a.toNat]⟩) := fun A O s vs Q E g av R r p => by
  exact r.one_ fun v h1' => h1'.int_ fun _ => P.chr_of_int (by simp; omega) (p.here g _ (.str _ _))
theorem call_divmod {k : Nat} (hb : b ≠ 0) (hp : Builtin.divisionGoesByPylong a b = false) : Opn C k (fun vs => PySem.call (.builtin "divmod") vs) [.int a, .int b] (.tuple [.int (a.fdiv b), .int (a.fmod b)]) := fun A O s vs Q E g av R r p => by
  refine r.two_ fun v w h1 h3 => h1.int_ fun _ => h3.int_ fun _ => ?_
  · · refine divmod_int hb ?_ (.inl hp)
      exact p.new g _ (Rep.newTuple (vs := [_, _]) (ds := [_, _]) av (.cons (.int _ _) (.cons (.int _ _) .nil)))
theorem call_bitlen {k : Nat} : Opn C k (fun vs => PySem.call (.builtin "int.bit_length") vs) [.int a] (.int (Builtin.Int.intBits a)) := fun A O s vs Q E g av R r p => by
  exact r.one_ fun v h1 => h1.int_ fun _ => call_int_bit_length (p.here g _ (.int _ _))
theorem meth_bitlen : Meth "bit_length" "int" "int.bit_length" := ⟨by first | exact PySem.F.plainAttrs_int | exact plainAttrs_int, slot_int_bit_length, by first | exact type_int_bit_length | exact PySem.F.type_int_bit_length⟩
/-- ints -/
theorem RepG.ints {O : List Addr} {h : Heap} : ∀ {ns : List Int} {vs : List Value}, RepG O h true vs (ns.map .int) → IntsAre vs ns
  | [], _, r => r.nil_ .nil
  | n :: ns, _, r => r.cons_ fun v vs' h1 h2 => h1.int_ fun t => .cons n t (RepG.ints h2)
theorem call_sum {k : Nat} {ns : List Int} : Opn C k (fun vs => PySem.call (.builtin "sum") vs) [.list (ns.map .int)] (.int ns.sum) := fun A O s vs Q E g av R r p => by
  refine r.one_ fun v h1 => h1.list_ fun _ _ ws hn ho hr => ?_
  · · have hi := hr.ints
      obtain ⟨xs, e⟩ := hi.allInts.items
      have hl0 : s.heap.IsList _ ws.toArray := ⟨_, ho, rfl, _, rfl⟩
      have hl : s.heap.IsList _ (PySem.intItems xs) := e ▸ hl0
      refine sum_intListG R.handled hl fun h' tk t' hk => ?_
      have hn : preSum (numAt xs) xs.size = ns.sum := by
        have h3 := hi.numsOf
        rw [show ws = ws.toArray.toList from rfl, e, nums_intItems] at h3
        rw [preSum_eq, List.take_of_length_le (by simp), h3]
      rw [hn]
      exact p _ h' tk (.of_keeps hk) (g.keepAll hk) (.int _ _)
theorem call_count {k : Nat} {ns : List Int} {i : Int} : Opn C k (fun vs => PySem.call (.builtin "list.count") vs) [.list (ns.map .int), .int i] (.int (ns.count i : Nat)) := fun A O s vs Q E g av R r p => by
  exact r.two_ fun v w h1 h3 => h3.int_ fun _ => h1.list_ fun _ _ ws hn ho hr => count_list_ints (vs := ws) ⟨_, ho, rfl, _, rfl⟩ hr.ints (p.here g _ (.int _ _))
end

section
variable {C : Cfg} {k : Nat} {env : Env} {m : Mp} {a b : Int} {x y : Str}

/-- an item at an index -/
theorem Ev.item {value slice : Expr} {pos : Pos} {xs : List PyData} {i : Int} {d : PyData} {j : Nat} (hv : Ev C k env m value (.list xs)) (hi : Ev C k env m slice (.int i)) (hj : seqIndex? i xs.length = some j) (hx : xs[j]? = some d)
    (hfit : xs.length ≤ sizeLine) (hs : ∀ o i, subscripted slice false o i = operate [o, i] (getItem o i) := by intro _ _; with_unfolding_all rfl) : Ev C k env m (.Subscript value slice pos) d := by
  intro A T he Oc O s fz Q E g F R p
  refine Subscript_ (hv A T he Oc O s fz _ _ g F R fun v h₁ tk k₁ g₁ r₁ => ?_)
  refine hi A T he Oc O _ fz _ _ g₁ (F.kp k₁) (R.kp k₁) fun v₂ h₂ tk₂ k₂ g₂ r₂ => ?_
  have r₁' := k₂.rep F.tabs r₁
  refine r₂.int_ fun _ => r₁'.list_ fun _ _ vs hn ho hr => ?_
  · obtain ⟨w, hw, rw⟩ := hr.get j d rfl hx
    have hl := hr.length
    have Q' : ∀ tk, Q w { s with heap := h₂, toks := tk } := fun tk => p w h₂ tk (k₁.trans' k₂) g₂ rw
    have hlt : j < xs.length := (List.getElem?_eq_some_iff.mp hx).1
    have hIL : h₂.IsList _ vs.toArray := ⟨_, ho, rfl, _, rfl⟩
    rw [sizeLine_eq] at hfit
    unfold seqIndex? at hj
    by_cases h0 : i < 0
    · simp only [h0, if_true] at hj
      split at hj
      · rename_i hc
        simp only [Bool.and_eq_true, decide_eq_true_eq] at hc
        cases hj
        exact tail_any (T := "list") ⟨_, ho, rfl⟩ slot_list_getitem.lookup (wpAny_getItem_list_neg (items := vs.toArray) (x := w) hIL h0 (by simp [hl]; omega) (by omega) (by simpa [hl] using hw) (Q' _)) (hs _ _)
      · cases hj
    · simp only [h0, if_false] at hj
      split at hj
      · rename_i hc
        simp only [Bool.and_eq_true, decide_eq_true_eq] at hc
        cases hj
        exact tail_any (T := "list") ⟨_, ho, rfl⟩ slot_list_getitem.lookup (wpAny_getItem_list (items := vs.toArray) (x := w) hIL (by omega) (by omega) (by simpa using hw) (Q' _)) (hs _ _)
      · cases hj
theorem Ev.itemT {value slice : Expr} {pos : Pos} {xs : List PyData} {i : Int} {d : PyData} {j : Nat} (hv : Ev C k env m value (.tuple xs)) (hi : Ev C k env m slice (.int i)) (hj : seqIndex? i xs.length = some j) (hx : xs[j]? = some d)
    (hlo : -(2 ^ 63) ≤ i) (hhi : i < 2 ^ 63) (hs : ∀ o i, subscripted slice false o i = operate [o, i] (getItem o i) := by intro _ _; with_unfolding_all rfl) : Ev C k env m (.Subscript value slice pos) d := by
  intro A T he Oc O s fz Q E g F R p
  refine Subscript_ (hv A T he Oc O s fz _ _ g F R fun v h₁ tk k₁ g₁ r₁ => ?_)
  refine hi A T he Oc O _ fz _ _ g₁ (F.kp k₁) (R.kp k₁) fun v₂ h₂ tk₂ k₂ g₂ r₂ => ?_
  have r₁' := k₂.rep F.tabs r₁
  refine r₂.int_ fun _ => r₁'.tup_ fun _ _ vs hn ho hr => ?_
  · obtain ⟨w, hw, rw⟩ := hr.get j d rfl hx
    have hl := hr.length
    refine tail_any (T := "tuple") ⟨_, ho, rfl⟩ slot_tuple_getitem.lookup (getItem_tuple (items := vs.toArray) (x := w) ?_ hlo hhi (by simpa [hl] using hj) (by simpa using hw) (p w h₂ tk₂ (k₁.trans' k₂) g₂ rw)) (hs _ _)
    first | exact ⟨_, ho, rfl, _, rfl⟩ | exact ⟨_, _, ho⟩ | exact ⟨_, ho⟩

/-- a slice's part -/
noncomputable def EvP (C : Cfg) (k : Nat) (env : Env) (m : Mp) : Option Expr → Option Int → Prop
  | none, none => True
  | some e, some i => Ev C k env m e (.int i)
  | _, _ => False
theorem EvP.eval {oe : Option Expr} {oi : Option Int} (h : EvP C k env m oe oi) (A : Around) (T : List Addr) (he : Heap) (Oc O : List Addr) (s : Shared) (fz : Bool) (Q E : Value → Shared → Prop)
    (g : GI C s.heap) (F : FS C T env he Oc O s.heap fz m) (R : Room C k A s.heap) (p : ∀ v h' tk, Kp C C.T s.heap h' → GI C h' → IsPart v oi → Q v { s with heap := h', toks := tk }) : wpAny C.M A (evalPart oe env) Q E s := by
  cases oe with
  | none =>
    cases oi with
    | none => exact wpAny_evalPart_none (p .none s.heap s.toks (.refl ..) g .none)
    | some i => exact h.elim
  | some e =>
    cases oi with
    | none => exact h.elim
    | some i =>
      have h' : Ev C k env m e (.int i) := h
      exact wpAny_evalPart_some (h' A T he Oc O s fz Q E g F R fun v h' tk k' g' r => r.int_ fun _ => p _ h' tk k' g' (.int _ _))
noncomputable def dpick (xs : List PyData) (lo hi st : Option Int) : List PyData :=
  (sliceRange (sliceBounds lo hi st xs.length).1 (sliceBounds lo hi st xs.length).2.1 (sliceBounds lo hi st xs.length).2.2).filterMap (xs[·]?)
theorem Reps.pickl {O : List Addr} {h : Heap} {vs : List Value} {ds : List PyData} (r : Reps O h vs ds) : ∀ is : List Nat, Reps O h (is.filterMap (vs[·]?)) (is.filterMap (ds[·]?))
  | [] => .nil
  | i :: is => by
    rw [List.filterMap_cons, List.filterMap_cons]
    have hl := r.length
    cases e : ds[i]? with
    | none =>
      have e2 : vs[i]? = none := by rw [List.getElem?_eq_none_iff] at e ⊢; omega
      rw [e2]; exact Reps.pickl r is
    | some d =>
      obtain ⟨v, e2, rv⟩ := r.get i d rfl e
      rw [e2]; exact .cons rv (Reps.pickl r is)
theorem pick_arr (vs : List Value) (lo hi st : Option Int) (n : Nat) (hn : vs.length = n) : slicePick vs.toArray lo hi st = ((sliceRange (sliceBounds lo hi st n).1 (sliceBounds lo hi st n).2.1 (sliceBounds lo hi st n).2.2).filterMap (vs[·]?)).toArray := by
  subst hn
  unfold slicePick
  simp
theorem EvL.slice {value : Expr} {lower upper step : Option Expr} {p' pos : Pos} {xs : List PyData} {lo hi st : Option Int} (hv : Ev C k env m value (.list xs)) (h1 : EvP C k env m lower lo) (h2 : EvP C k env m upper hi)
    (h3 : EvP C k env m step st) (hfit : xs.length ≤ sizeLine) (h0 : st ≠ some 0) (hs : ∀ o i, ∃ ops, subscripted (.Slice lower upper step p') false o i = operate ops (getItem o i) := by intro _ _; exact ⟨_, rfl⟩) :
    EvL C k env m (.Subscript value (.Slice lower upper step p') pos) (dpick xs lo hi st) := by
  intro A T he Oc O s fz Q E g F R p
  refine Subscript_ (hv A T he Oc O s fz _ _ g F R fun v h₁ tk k₁ g₁ r₁ => wpAny_Slice ?_)
  refine h1.eval A T he Oc O _ fz _ _ g₁ (F.kp k₁) (R.kp k₁) fun vl h₂ tk₂ k₂ g₂ r₂ => ?_
  refine h2.eval A T he Oc O _ fz _ _ g₂ ((F.kp k₁).kp k₂) ((R.kp k₁).kp k₂) fun vu h₃ tk₃ k₃ g₃ r₃ => ?_
  refine h3.eval A T he Oc O _ fz _ _ g₃ (((F.kp k₁).kp k₂).kp k₃) (((R.kp k₁).kp k₂).kp k₃) fun vs h₄ tk₄ k₄ g₄ r₄ => ?_
  have k5 : Kp C C.T h₄ (h₄.push { cls := .type "slice", data := .fields #[vl, vu, vs] }) := .push ..
  have k15 := ((((k₁.trans' k₂).trans' k₃).trans' k₄).trans' k5)
  have r₁' := k5.rep F.tabs (k₄.rep F.tabs (k₃.rep F.tabs (k₂.rep F.tabs r₁)))
  refine r₁'.list_ fun l n ws hn ho hr => ?_
  · have hIL : (h₄.push { cls := .type "slice", data := .fields #[vl, vu, vs] }).IsList l ws.toArray := ⟨_, ho, rfl, _, rfl⟩
    obtain ⟨ops, ho'⟩ := hs (.ref l) (.ref h₄.objs.size)
    refine tail_any (T := "list") ⟨_, ho, rfl⟩ slot_list_getitem.lookup (wpAny_getItem_list_slice (items := ws.toArray) hIL (Heap.IsSliceOf.new ..) r₂ r₃ r₄ h0 ?_ (by simp [hr.length]; exact hfit)) ho'
    rw [pick_arr ws lo hi st xs.length hr.length]
    exact (p.later k15).new (g₄.push _) tk₄ (Reps.pickl hr _)
noncomputable def spick (x : Str) (lo hi : Option Int) : Str := Txt.slice x lo hi
noncomputable def partOf : Option Int → Tok → Option (Int × Tok)
  | none, _ => none
  | some i, t => some (i, t)
theorem isPart_value {v : Value} {o : Option Int} (h : IsPart v o) : ∃ q : Option (Int × Tok), v = partValue q ∧ q.map (·.1) = o := by
  cases h with
  | none => exact ⟨none, rfl, rfl⟩
  | int i t => exact ⟨some (i, t), rfl, rfl⟩
theorem Ev.sliceS {value : Expr} {lower upper : Option Expr} {p' pos : Pos} {lo hi : Option Int} (hv : Ev C k env m value (.str x)) (h1 : EvP C k env m lower lo) (h2 : EvP C k env m upper hi) (hfit : x.length ≤ sizeLine) :
    Ev C k env m (.Subscript value (.Slice lower upper none p') pos) (.str (Txt.slice x lo hi)) := by
  intro A T he Oc O s fz Q E g F R p
  refine Subscript_ (hv A T he Oc O s fz _ _ g F R fun v h₁ tk k₁ g₁ r₁ => r₁.str_ fun _ => wpAny_Slice ?_)
  refine h1.eval A T he Oc O _ fz _ _ g₁ (F.kp k₁) (R.kp k₁) fun vl h₂ tk₂ k₂ g₂ r₂ => ?_
  refine h2.eval A T he Oc O _ fz _ _ g₂ ((F.kp k₁).kp k₂) ((R.kp k₁).kp k₂) fun vu h₃ tk₃ k₃ g₃ r₃ => wpAny_evalPart_none ?_
  obtain ⟨q1, rfl, e1⟩ := isPart_value r₂
  obtain ⟨q2, rfl, e2⟩ := isPart_value r₃
  refine tail_any (T := "str") (typeIs_str _ _ _) PySem.F.slot_str_getitem.lookup (wpAny_getItem_str_slice (l := q1) (u := q2) (st := none) ⟨_, Heap.get?_push_size _ rfl, rfl, rfl⟩ rfl (post_val_or_str ⟨?_, fun t' kk => ?_⟩)) (ops := [.ref h₃.objs.size, .str x _]) rfl
  · subst e1 e2; exact Nat.le_trans (Txt.slice_le x _ _) hfit
  · subst e1 e2
    exact p _ _ kk ((((k₁.trans' k₂).trans' k₃)).trans' (.push ..)) (g₃.push _) (.str _ _)
end

section
variable {C : Cfg} {k : Nat} {a b : Int} {x y : Str}
open Builtin Builtin.Str

theorem meth_join : Meth "join" "str" "str.join" := ⟨PySem.F.plainAttrs_str, PySem.F.slot_str_join, PySem.F.type_str_join⟩
theorem meth_split : Meth "split" "str" "str.split" := ⟨PySem.F.plainAttrs_str, PySem.F.slot_str_split, PySem.F.type_str_split⟩
theorem meth_startswith : Meth "startswith" "str" "str.startswith" := ⟨PySem.F.plainAttrs_str, PySem.F.slot_str_startswith, PySem.F.type_str_startswith⟩
theorem meth_endswith : Meth "endswith" "str" "str.endswith" := ⟨PySem.F.plainAttrs_str, PySem.F.slot_str_endswith, PySem.F.type_str_endswith⟩
theorem meth_find : Meth "find" "str" "str.find" := ⟨PySem.F.plainAttrs_str, PySem.F.slot_str_find, PySem.F.type_str_find⟩

theorem call_startswith : Opn C k (fun vs => PySem.call (.builtin "str.startswith") vs) [.str x, .str y] (.bool (Txt.startswith x y)) := fun A O s vs Q E g av R r p => by
  exact r.two_ fun _ _ h1 h3 => h1.str_ fun _ => h3.str_ fun _ => SC.startswith (p.here g s.toks (.bool _))
theorem call_endswith : Opn C k (fun vs => PySem.call (.builtin "str.endswith") vs) [.str x, .str y] (.bool (Txt.endswith x y)) := fun A O s vs Q E g av R r p => by
  exact r.two_ fun _ _ h1 h3 => h1.str_ fun _ => h3.str_ fun _ => SC.endswith (p.here g s.toks (.bool _))
theorem RepG.strs {O : List Addr} {h : Heap} : ∀ {ss : List Str} {vs : List Value}, RepG O h true vs (ss.map .str) → ∃ l : List (Str × Tok), vs = strValues l ∧ l.map (·.1) = ss
  | [], _, r => r.nil_ ⟨[], rfl, rfl⟩
  | n :: ns, _, r => by
    refine r.cons_ fun v vs' h1 h2 => h1.str_ fun t => ?_
    · obtain ⟨l, e1, e2⟩ := RepG.strs h2
      exact ⟨(n, t) :: l, by rw [e1]; rfl, by rw [List.map_cons, e2]⟩
theorem Reps.ofStrs {O : List Addr} {h : Heap} : ∀ (l : List (Str × Tok)), Reps O h (strValues l) ((l.map (·.1)).map .str)
  | [] => .nil
  | (n, t) :: l => .cons (.str n t) (Reps.ofStrs l)
theorem call_join {ss : List Str} (hok : JoinOk x ss = true) : Opn C k (fun vs => PySem.call (.builtin "str.join") vs) [.str x, .list (ss.map .str)] (.str (Txt.join x ss)) := fun A O s vs Q E g av R r p => by
  refine r.two_ fun _ _ h1 h3 => h1.str_ fun _ => h3.list_ fun _ _ ws hn ho hr => ?_
  · · · obtain ⟨l, e1, e2⟩ := hr.strs
        subst e1
        exact SC.join ⟨_, ho, rfl, _, rfl⟩ e2 hok fun t' kk => p.here g kk (.str _ t')
theorem call_split (hy : (y.length == 0) = false) (hsz : x.length ≤ sizeLine) (hsz2 : (partsBetween x (occurrences x y 0 x.length (x.length + 1)) y.length).length ≤ sizeLine) :
    OpnL C k (fun vs => PySem.call (.builtin "str.split") vs) [.str x, .str y] ((Txt.split x y).map .str) := fun A O s vs Q E g av R r p => by
  refine r.two_ fun _ _ h1 h3 => h1.str_ fun t => h3.str_ fun u => ?_
  · · have one : ∀ s', PostL C O s' [PyData.str x] Q → GI C s'.heap → Q (.ref s'.heap.objs.size) { s' with heap := s'.heap.push { cls := .type "list", data := .seq #[Value.str x t] } } :=
        fun s' p' g' => p'.new (vs := [Value.str x t]) g' s'.toks (.cons (.str _ _) .nil)
      cases h1 : (decide (x.length < y.length) || decide (strKind x < strKind y))
      · cases hf : (occurrences x y 0 x.length (x.length + 1)).isEmpty
        · refine call_meets PySem.F.slot_str_split (typeIs_str _ _ _) PySem.F.entry_str_split (PySem.F.args_str_split_2 _ _) (meets_str_split_sep x y t u h1 hy hf hsz hsz2) ?_
          show wants Q E _ { s with toks := _, heap := s.heap.push { cls := .type "list", data := .seq (strsFrom s.toks (partsBetween x (occurrences x y 0 x.length (x.length + 1)) y.length)).toArray } }
          rw [strsFrom_eq]
          have e : Txt.split x y = partsBetween x (occurrences x y 0 x.length (x.length + 1)) y.length := (if_neg (ne_true_of_eq_false h1)).trans (if_neg (ne_true_of_eq_false hf))
          rw [e] at p
          refine p.new g _ ?_
          have := Reps.ofStrs (O := O) (h := s.heap) (numbered s.toks (partsBetween x (occurrences x y 0 x.length (x.length + 1)) y.length))
          rw [numbered_texts] at this
          exact this
        · have e : Txt.split x y = [x] := (if_neg (ne_true_of_eq_false h1)).trans (if_pos hf)
          rw [e] at p
          exact call_meets PySem.F.slot_str_split (typeIs_str _ _ _) PySem.F.entry_str_split (PySem.F.args_str_split_2 _ _) (meets_str_split_not_found x y t u h1 hy hf) (one s p g)
      · have e : Txt.split x y = [x] := if_pos h1
        rw [e] at p
        exact call_meets PySem.F.slot_str_split (typeIs_str _ _ _) PySem.F.entry_str_split (PySem.F.args_str_split_2 _ _) (meets_str_split_cannot_occur x y t u h1) (one s p g)
noncomputable def dfind (x y : Str) (i j : Int) : Int := match occurrences x y (fromIndex x.length i) (min (fromIndex x.length j) x.length) 1 with | q :: _ => (q : Int) | [] => -1
theorem gives_find4 (x y : Str) (i j : Int) (t u v w : Tok) : Gives («str.find» ⟨[.str x t, .str y u, .int i v, .int j w], []⟩) (.int (dfind x y i j)) := by
  show Gives (match occurrences x y (fromIndex x.length i) (min (fromIndex x.length j) x.length) 1 with | k :: _ => retInt k | [] => (do rule "str.find.not-found"; retInt (-1))) _
  unfold dfind
  cases occurrences x y (fromIndex x.length i) (min (fromIndex x.length j) x.length) 1 with
  | nil => exact .rule (.of_eq rfl)
  | cons k _ => exact .of_eq rfl
theorem call_find4 : Opn C k (fun vs => PySem.call (.builtin "str.find") vs) [.str x, .str y, .int a, .int b] (.int (dfind x y a b)) := fun A O s vs Q E g av R r p => by
  exact r.cons_ fun _ _ h1 h2 => h2.three_ fun _ _ _ h3 h5 h7 => h1.str_ fun _ => h3.str_ fun _ => h5.int_ fun _ => h7.int_ fun _ =>
    call_gives PySem.F.slot_str_find (typeIs_str _ _ _) PySem.F.entry_str_find (by first | exact PySem.F.args_str_find_4 _ _ _ _ | (unfold argsOk; kernel_rfl)) (gives_find4 x y a b _ _ _ _) (p.here g _ (.int _ _))
theorem meth_count : Meth "count" "list" "list.count" := ⟨by first | exact PySem.F.plainAttrs_list | exact plainAttrs_list, by first | exact PySem.F.slot_list_count | exact slot_list_count, by first | exact PySem.F.type_list_count | exact type_list_count⟩
end

section
variable {C : Cfg} {T : List Addr} {env : Env} {he : Heap} {Oc O O' : List Addr} {h h' : Heap} {m m' : Mp} {fz : Bool}
/-- an owned object given up -/
theorem FS.drop {a : Addr} {x : Str} {b : Bd} (F : FS C T env he Oc O h fz m) (hs : Heap.ExtBut a h h') (e : m.lookup x = some b) (hb : b.addr = some a) (hT : a ∉ T) (hps : Pseudo env x) :
    ∃ O', (∀ c ∈ O', c ∈ O) ∧ FS C T env he Oc O' h' fz ((x, .v .none) :: m) := by
  obtain ⟨mm, hn, q⟩ := F.bear
  obtain ⟨_, _, v, q3⟩ := q x b e
  obtain ⟨o, w⟩ := q3.own hb
  have hO := w.mem
  have hCT := w.notT
  have hH := w.old
  have ho := w.get
  have nd := w.nd
  have nc := w.nc
  have hH := hH.resolve_right hT
  obtain ⟨oL, esL, epL, eL, dL, rL⟩ := id hn
  have hLa : env.locals ≠ a := get_ne2 eL ho fun z => nd _ _ (z.symm.trans dL)
  have hs2 : ∀ c ∈ O.filter (· ≠ a), c ∈ O := fun c hc => (List.mem_filter.mp hc).1
  have hin : ∀ {c}, c ∈ O → c ≠ a → c ∈ O.filter (· ≠ a) := fun h1 h2 => List.mem_filter.mpr ⟨h1, by simpa using h2⟩
  have rp : ∀ {b vs ds}, RepG O h b vs ds → RepG (O.filter (· ≠ a)) h' b vs ds := fun r => r.moved fun c oc xs n hc ec _ => ⟨hs c oc (fun z => hc (z ▸ hO)) ec, fun z => hc (hs2 c z)⟩
  have mv : ∀ v b, b.addr ≠ some a → Bears C T he O h v b → Bears C T he (O.filter (· ≠ a)) h' v b := by
    intro v b hb z
    cases b with
    | d y => exact rp z
    | v u => exact z
    | r u y => exact ⟨z.1, rp z.2⟩
    | L a' ds => obtain ⟨e, h1, h2, h3, vs, n, h4, h5⟩ := z; have hne : a' ≠ a := fun w => hb (w ▸ rfl); exact ⟨e, hin h1 hne, h2, h3, vs, n, hs _ _ hne h4, rp h5⟩
    | ob a' P => obtain ⟨e, h1, h2, h3, o, h4, h5, h6⟩ := z; have hne : a' ≠ a := fun w => hb (w ▸ rfl); exact ⟨e, hin h1 hne, h2, h3, o, hs _ _ hne h4, h5, h6⟩
  have cl : ∀ {c v}, h.IsCell c v → c ≠ a ∧ h'.IsCell c v := by
    rintro c v ⟨oc, ec, d⟩
    have hne : c ≠ a := get_ne2 ec ho fun z => nc _ (z.symm.trans d)
    exact ⟨hne, oc, hs _ _ hne ec, d⟩
  refine ⟨O.filter (· ≠ a), hs2, F.kind, F.glob, F.blt, fun b hb => hin (F.tabs b hb) (fun z => hCT (z ▸ hb)), F.tT, F.tO, fun b hb => ⟨hin (F.sup b hb).1 fun z => ?_, (F.sup b hb).2⟩, fun b hb => ?_,
    ⟨hin F.loc.1 hLa, F.loc.2⟩, fun y c ec => ?_, F.apart, ⟨mm, hn.extBut hs hLa, fun y b ey => ?_⟩, disj_cons F.disj (.none rfl), ?_⟩
  · obtain ⟨o, eo⟩ := (F.sup b hb).2; rw [z, hH] at eo; cases eo
  · obtain ⟨h1, h2⟩ := List.mem_filter.mp hb
    obtain ⟨h3, o, h4⟩ := F.av b h1
    exact ⟨h3, o, hs _ _ (by simpa using h2) h4⟩
  · obtain ⟨a1, ⟨v, a2⟩, a3⟩ := F.cells y c ec
    obtain ⟨h1, h2⟩ := cl a2
    exact ⟨a1, ⟨v, h2⟩, fun z => ⟨hin (a3 z).1 h1, (a3 z).2⟩⟩
  · by_cases hy : y = x
    · subst hy; rw [lk_self] at ey; cases ey
      exact ⟨fun z => absurd z hps.1, fun z => z.elim (fun z => absurd z hps.2.1) fun z => absurd z hps.2.2, .none, rfl⟩
    · rw [lk_ne hy] at ey
      obtain ⟨q1, q2, v, q3⟩ := q y b ey
      have hb : b.addr ≠ some a := fun z => hy (F.disj y x b _ a ey e z ‹_›)
      exact ⟨fun hl => let ⟨v, e1, e2⟩ := q1 hl; ⟨v, e1, mv _ _ hb e2⟩, fun hl => let ⟨c, v, e1, e2, e3⟩ := q2 hl; ⟨c, v, e1, (cl e2).2, mv _ _ hb e3⟩, v, mv _ _ hb q3⟩
  · refine ⟨fun b o eb => ?_, fun b o hb eb => ?_, fun b o es ep eb d => ?_⟩
    · obtain ⟨o', e'⟩ := F.ext.live b o eb
      exact ⟨o', hs _ _ (get_ne eb hH) e'⟩
    · have hne : b ≠ a := get_ne eb hH
      rcases F.ext.keep b o hb eb with e1 | ⟨n1, d1, sl, e1⟩
      · exact .inl (hs _ _ hne e1)
      · exact .inr ⟨n1, d1, sl, hs _ _ hne e1⟩
    · have hne : b ≠ a := get_ne eb hH
      obtain ⟨o', es', ep', e1, d1⟩ := F.ext.dict b o es ep eb d
      exact ⟨o', es', ep', hs _ _ hne e1, d1⟩
end

/-- an iterator over data -/
structure Itr (C : Cfg) (xs : List PyData) (b : Nat → Bd) (bS : Bd) (I : Addr) : Prop where
  addr : ∀ i, (b i).addr = some I
  addrS : bS.addr = none
  item : ∀ (A : Around) (T : List Addr) (he : Heap) (O : List Addr) (s : Shared) (i : Nat) (d : PyData) (Q : Option Value → Shared → Prop) (E : Value → Shared → Prop), xs[i]? = some d → A.handled = none →
    Bears C T he O s.heap (.ref I) (b i) → (∃ v, Bears C T he O s.heap v bS) →
    (∀ v h' tk, Heap.ExtBut I s.heap h' → Rep O h' v d → Bears C T he O h' (.ref I) (b (i + 1)) → Q (some v) { s with heap := h', toks := tk }) → wpAny C.M A (pyNext (.ref I)) Q E s
  done : ∀ (A : Around) (T : List Addr) (he : Heap) (O : List Addr) (s : Shared) (Q : Option Value → Shared → Prop) (E : Value → Shared → Prop), A.handled = none →
    Bears C T he O s.heap (.ref I) (b xs.length) → (∃ v, Bears C T he O s.heap v bS) → (∀ h' tk, Heap.ExtBut I s.heap h' → Q none { s with heap := h', toks := tk }) → wpAny C.M A (pyNext (.ref I)) Q E s
  self : ∀ (A : Around) (T : List Addr) (he : Heap) (O : List Addr) (s : Shared) (i : Nat) (Q E : Value → Shared → Prop), Bears C T he O s.heap (.ref I) (b i) → Q (.ref I) s → wpAny C.M A (pyIter (.ref I)) Q E s
  tgt : ∀ (A : Around) (T : List Addr) (he : Heap) (O : List Addr) (s : Shared) (i : Nat) (tg : Expr) (v : Value) (Q : Unit → Shared → Prop) (E : Value → Shared → Prop), Bears C T he O s.heap (.ref I) (b i) → Q () s → wpAny C.M A (letOwnedTupleGo tg (.ref I) v) Q E s
theorem tgt_ok {C : Cfg} {A : Around} {s : Shared} {I : Addr} {o : Obj} {T : String} {vs : Array Value} {tg : Expr} {v : Value} {Q : Unit → Shared → Prop} {E : Value → Shared → Prop} (ho : s.heap.get? I = some o) (hc : o.cls = .type T) (hd : o.data = .fields vs)
    (hT : ["enumerate", "zip", "dict_itemiterator", "dict_reverseitemiterator", "odict_iterator", "itertools.zip_longest", "itertools.pairwise"].contains T = false) (q : Q () s) : wpAny C.M A (letOwnedTupleGo tg (.ref I) v) Q E s := by
  unfold letOwnedTupleGo
  split
  · cases v with
    | ref a =>
      refine wpAny_bind (wpAny_load ho ?_)
      rw [hc, hd]
      dsimp only
      rw [hT]
      exact wpAny_pure q
    | _ => exact wpAny_pure q
  · cases v with
    | ref a =>
      refine wpAny_bind (wpAny_load ho ?_)
      rw [hc, hd]
      dsimp only
      rw [hT]
      exact wpAny_pure q
    | _ => exact wpAny_pure q
  · exact wpAny_pure q
theorem fld_li {T : String} {o : Obj} {v : Value} {i : Int} {t : Tok} (hd : o.data = .fields #[v, .int i t]) : Fld o := ⟨_, hd, fun x t' e => by simp at e⟩
theorem rep_ext {C : Cfg} {O : List Addr} {h h' : Heap} {I : Addr} {b : Bool} {vs ds} (hs : Heap.ExtBut I h h') (hI : I ∈ O) (r : RepG O h b vs ds) : RepG O h' b vs ds :=
  r.moved fun a o xs n ha ho _ => ⟨hs a o (fun z => ha (z ▸ hI)) ho, ha⟩

noncomputable def bList (I l : Addr) (i : Nat) : Bd := .ob I fun o => o.cls = .type "list_iterator" ∧ o.data = .fields #[.ref l, .int i 0]
theorem Itr.list {C : Cfg} {xs : List PyData} {I l : Addr} : Itr C xs (bList I l) (.r (.ref l) (.list xs)) I where
  addr := fun _ => rfl
  addrS := rfl
  item := fun A T he O s i d Q E hx hh hb ⟨v, hv, hr⟩ q => by
    subst hv
    obtain ⟨_, hO, hT, hH, o, ho, ⟨hc, hd⟩, hF⟩ := hb
    obtain ⟨_, vs, hn, hol, hr⟩ := hr.listAt_
    · obtain ⟨w, hw, rw⟩ := hr.get i d rfl hx
      refine wpAny_pyNext_list_item (items := vs.toArray) (x := w) ⟨o, ho, hc, hd⟩ ⟨_, hol, rfl, _, rfl⟩ (by simpa using hw) fun h' hit hs => ?_
      obtain ⟨o', ho', hc', hd'⟩ := hit
      exact q w h' s.toks hs.extBut (rep_ext (C := C) hs.extBut hO rw) ⟨rfl, hO, hT, hH, o', ho', ⟨hc', hd'⟩, fld_li (T := "") hd'⟩
  done := fun A T he O s Q E hh hb ⟨v, hv, hr⟩ q => by
    subst hv
    obtain ⟨_, hO, hT, hH, o, ho, ⟨hc, hd⟩, hF⟩ := hb
    obtain ⟨_, vs, hn, hol, hr⟩ := hr.listAt_
    · exact wpAny_pyNext_list_end (items := vs.toArray) hh ⟨o, ho, hc, hd⟩ ⟨_, hol, rfl, _, rfl⟩ (by simp [hr.length]) fun h' hs => q h' s.toks hs
  self := fun A T he O s i Q E hb q => by
    obtain ⟨_, hO, hT, hH, o, ho, ⟨hc, hd⟩, hF⟩ := hb
    exact wpAny_pyIter_listiter ⟨o, ho, hc, hd⟩ q
  tgt := fun A T he O s i tg v Q E hb q => by
    obtain ⟨_, hO, hT, hH, o, ho, ⟨hc, hd⟩, hF⟩ := hb
    exact tgt_ok ho hc hd (by decide) q
noncomputable def bTup (I l : Addr) (i : Nat) : Bd := .ob I fun o => o.cls = .type "tuple_iterator" ∧ o.data = .fields #[.ref l, .int i 0]
theorem Itr.tup {C : Cfg} {xs : List PyData} {I l : Addr} : Itr C xs (bTup I l) (.r (.ref l) (.tuple xs)) I where
  addr := fun _ => rfl
  addrS := rfl
  item := fun A T he O s i d Q E hx hh hb ⟨v, hv, hr⟩ q => by
    subst hv
    obtain ⟨_, hO, hT, hH, o, ho, ⟨hc, hd⟩, hF⟩ := hb
    obtain ⟨_, vs, hn, hol, hr⟩ := hr.tupAt_
    · obtain ⟨w, hw, rw⟩ := hr.get i d rfl hx
      refine next_tuple_item (items := vs.toArray) (x := w) ⟨o, ho, hc, hd⟩ ⟨_, hol, rfl, _, rfl⟩ (by simpa using hw) fun h' hit hs => ?_
      obtain ⟨o', ho', hc', hd'⟩ := hit
      exact q w h' s.toks hs.extBut (rep_ext (C := C) hs.extBut hO rw) ⟨rfl, hO, hT, hH, o', ho', ⟨hc', hd'⟩, fld_li (T := "") hd'⟩
  done := fun A T he O s Q E hh hb ⟨v, hv, hr⟩ q => by
    subst hv
    obtain ⟨_, hO, hT, hH, o, ho, ⟨hc, hd⟩, hF⟩ := hb
    obtain ⟨_, vs, hn, hol, hr⟩ := hr.tupAt_
    · exact next_tuple_end (items := vs.toArray) hh ⟨o, ho, hc, hd⟩ ⟨_, hol, rfl, _, rfl⟩ (by simp [hr.length]) fun h' hs => q h' s.toks hs
  self := fun A T he O s i Q E hb q => by
    obtain ⟨_, hO, hT, hH, o, ho, ⟨hc, hd⟩, hF⟩ := hb
    exact wpAny_pyIter_tupleiter ⟨o, ho, hc, hd⟩ q
  tgt := fun A T he O s i tg v Q E hb q => by
    obtain ⟨_, hO, hT, hH, o, ho, ⟨hc, hd⟩, hF⟩ := hb
    exact tgt_ok ho hc hd (by decide) q
noncomputable def bRev (I l : Addr) (n i : Nat) : Bd := .ob I fun o => o.cls = .type "list_reverseiterator" ∧ o.data = .fields #[.ref l, rawInt ((n : Int) - 1 - (i : Int))]
theorem Itr.rev {C : Cfg} {xs : List PyData} {I l : Addr} : Itr C xs.reverse (bRev I l xs.length) (.r (.ref l) (.list xs)) I where
  addr := fun _ => rfl
  addrS := rfl
  item := fun A T he O s i d Q E hx hh hb ⟨v, hv, hr⟩ q => by
    subst hv
    obtain ⟨_, hO, hT, hH, o, ho, ⟨hc, hd⟩, hF⟩ := hb
    obtain ⟨_, vs, hn, hol, hr⟩ := hr.listAt_
    · have hlt : i < xs.length := by have := (List.getElem?_eq_some_iff.mp hx).1; simpa using this
      rw [List.getElem?_reverse hlt] at hx
      obtain ⟨w, hw, rw⟩ := hr.get _ d rfl hx
      have e : (xs.length : Int) - 1 - (i : Int) = ((xs.length - 1 - i : Nat) : Int) := by omega
      rw [e] at hd
      refine wpAny_pyNext_rev_item (items := vs.toArray) (x := w) ⟨o, ho, hc, hd⟩ ⟨_, hol, rfl, _, rfl⟩ (by simpa using hw) fun h' hit hs => ?_
      obtain ⟨o', ho', hc', hd'⟩ := hit
      have e2 : ((xs.length - 1 - i : Nat) : Int) - 1 = (xs.length : Int) - 1 - ((i + 1 : Nat) : Int) := by omega
      rw [e2] at hd'
      exact q w h' s.toks hs.extBut (rep_ext (C := C) hs.extBut hO rw) ⟨rfl, hO, hT, hH, o', ho', ⟨hc', hd'⟩, fld_li (T := "") hd'⟩
  done := fun A T he O s Q E hh hb ⟨v, hv, hr⟩ q => by
    subst hv
    obtain ⟨_, hO, hT, hH, o, ho, ⟨hc, hd⟩, hF⟩ := hb
    obtain ⟨_, vs, hn, hol, hr⟩ := hr.listAt_
    · have e : (xs.length : Int) - 1 - ((xs.reverse.length : Nat) : Int) = -1 := by rw [List.length_reverse]; omega
      rw [e] at hd
      exact wpAny_pyNext_rev_end hh ⟨o, ho, hc, hd⟩ fun h' hs => q h' s.toks hs
  self := fun A T he O s i Q E hb q => by
    obtain ⟨_, hO, hT, hH, o, ho, ⟨hc, hd⟩, hF⟩ := hb
    exact wpAny_pyIter_revIter ⟨o, ho, hc, hd⟩ q
  tgt := fun A T he O s i tg v Q E hb q => by
    obtain ⟨_, hO, hT, hH, o, ho, ⟨hc, hd⟩, hF⟩ := hb
    exact tgt_ok ho hc hd (by decide) q
noncomputable def bRng (I : Addr) (n i : Nat) : Bd := .ob I fun o => o = { cls := .type "range_iterator", dict := none, data := .fields #[rawInt (i : Int), rawInt ((n : Int) - (i : Int)), rawInt 1], slots := #[] }
noncomputable def rng (n : Nat) : List PyData := (List.range n).map fun (i : Nat) => PyData.int (i : Int)
theorem Itr.range {C : Cfg} {n : Nat} {I : Addr} : Itr C (rng n) (bRng I n) (.v .none) I where
  addr := fun _ => rfl
  addrS := rfl
  item := fun A T he O s i d Q E hx hh hb _ q => by
    obtain ⟨_, hO, hT, hH, o, ho, rfl, hF⟩ := hb
    have hlt : i < n := by have := (List.getElem?_eq_some_iff.mp hx).1; simpa [Mine.rng] using this
    have hd : d = .int (i : Int) := by
      have : (rng n)[i]? = some (.int (i : Int)) := by simp [Mine.rng, hlt]
      rw [this] at hx; exact (Option.some.inj hx).symm
    subst hd
    refine wpAny_pyNext_range_item ho (by omega) fun h' hit hs => ?_
    refine q _ h' _ hs.extBut (.int _ _) ⟨rfl, hO, hT, hH, _, hit, ?_, _, rfl, fun x t' e => by simp [rawInt] at e⟩
    have e1 : ((i + 1 : Nat) : Int) = (i : Int) + 1 := by omega
    have e2 : (n : Int) - ((i : Int) + 1) = (n : Int) - (i : Int) - 1 := by omega
    rw [e1, e2]
  done := fun A T he O s Q E hh hb _ q => by
    obtain ⟨_, hO, hT, hH, o, ho, rfl, hF⟩ := hb
    exact wpAny_pyNext_range_end hh ho (by simp [Mine.rng]) fun h' hs => q h' s.toks hs
  self := fun A T he O s i Q E hb q => by
    obtain ⟨_, hO, hT, hH, o, ho, rfl, hF⟩ := hb
    exact wpAny_pyIter_rangeiter ho q
  tgt := fun A T he O s i tg v Q E hb q => by
    obtain ⟨_, hO, hT, hH, o, ho, rfl, hF⟩ := hb
    exact tgt_ok ho rfl rfl (by decide) q

section
variable {C : Cfg} {T : List Addr} {env : Env} {he : Heap} {Oc O O' : List Addr} {h h' : Heap} {m m' : Mp} {fz : Bool}
/-- a dict that is none of the frame's turned -/
theorem FS.away {c : Addr} (F : FS C T env he Oc O h fz m) (hs : Heap.ExtBut c h h') (hc : c ∉ O) (hh : he.get? c = none) (hd : ∃ o es ep, h.get? c = some o ∧ o.data = .dict es ep) : FS C T env he Oc O h' fz m := by
  obtain ⟨oc, es, ep, ec, dc⟩ := hd
  have mv : ∀ v b, Bears C T he O h v b → Bears C T he O h' v b := fun v b z => z.moved (fun _ z => z)
    (fun a o e ha ⟨xs, n, hq⟩ => ⟨hs a o (fun z => by rw [z, ec] at e; cases e; rw [dc] at hq; cases hq) e, ha⟩)
    fun a o _ e _ hf => hs a o (fun z => by rw [z, ec] at e; cases e; rcases hf with ⟨_, d, _⟩ | ⟨_, _, d⟩ <;> rw [dc] at d <;> cases d) e
  have cl : ∀ {a v}, h.IsCell a v → h'.IsCell a v := fun ⟨o, e, d⟩ => ⟨o, hs _ _ (fun z => by rw [z, ec] at e; cases e; rw [dc] at d; cases d) e, d⟩
  obtain ⟨mm, hn, q⟩ := F.bear
  refine ⟨F.kind, F.glob, F.blt, F.tabs, F.tT, F.tO, F.sup, fun b hb => ⟨(F.av b hb).1, let ⟨o, e⟩ := (F.av b hb).2; ⟨o, hs b o (fun z => hc (z ▸ hb)) e⟩⟩, F.loc,
    fun y c e => let ⟨a1, ⟨v, a2⟩, a3⟩ := F.cells y c e; ⟨a1, ⟨v, cl a2⟩, a3⟩, F.apart, ⟨mm, hn.extBut hs (fun z => hc (z ▸ F.loc.1)), fun y b e => ?_⟩, F.disj, ?_⟩
  · obtain ⟨q1, q2, v, q3⟩ := q y b e
    exact ⟨fun z => let ⟨v, e1, e2⟩ := q1 z; ⟨v, e1, mv _ _ e2⟩, fun z => let ⟨c, v, e1, e2, e3⟩ := q2 z; ⟨c, v, e1, cl e2, mv _ _ e3⟩, v, mv _ _ q3⟩
  · refine ⟨fun b o eb => ?_, fun b o hb eb => ?_, fun b o es ep eb d => ?_⟩
    · obtain ⟨o', e'⟩ := F.ext.live b o eb
      exact ⟨o', hs _ _ (fun z => by rw [z, hh] at eb; cases eb) e'⟩
    · have hne : b ≠ c := fun z => by rw [z, hh] at eb; cases eb
      rcases F.ext.keep b o hb eb with e1 | ⟨n1, d1, sl, e1⟩
      · exact .inl (hs _ _ hne e1)
      · exact .inr ⟨n1, d1, sl, hs _ _ hne e1⟩
    · have hne : b ≠ c := fun z => by rw [z, hh] at eb; cases eb
      obtain ⟨o', es', ep', e1, d1⟩ := F.ext.dict b o es ep eb d
      exact ⟨o', es', ep', hs _ _ hne e1, d1⟩
end

/-- an iterable's items -/
noncomputable def EvI (C : Cfg) (k : Nat) (env : Env) (m : Mp) (e : Expr) (xs : List PyData) : Prop :=
  ∀ (A : Around) (T : List Addr) (he : Heap) (Oc O : List Addr) (s : Shared) (fz : Bool) (Q E : Value → Shared → Prop),
    GI C s.heap → FS C T env he Oc O s.heap fz m → Room C k A s.heap →
    (∀ I b bS h' tk, s.heap.get? I = none → Itr C xs b bS I → Kp C C.T s.heap h' → GI C h' → FS C T env he Oc (I :: O) h' fz m →
      (∀ T he, he.get? I = none → Bears C T he (I :: O) h' (.ref I) (b 0) ∧ ∃ v, Bears C T he (I :: O) h' v bS) → Q (.ref I) { s with heap := h', toks := tk }) →
    wpAny C.M A (eval e env) (fun x s₁ => wpAny C.M A (pyIter x) Q E s₁) E s
section
variable {C : Cfg} {k : Nat} {env : Env} {m : Mp}
theorem Kp.fresh {O : List Addr} {h h' : Heap} (k : Kp C O h h') {a : Addr} (e : h'.get? a = none) : h.get? a = none := by
  cases e' : h.get? a with
  | none => rfl
  | some o => obtain ⟨o', e''⟩ := k.live _ _ e'; rw [e] at e''; cases e''
theorem EvI.list {e : Expr} {xs : List PyData} (hv : Ev C k env m e (.list xs)) : EvI C k env m e xs := by
  intro A T he Oc O s fz Q E g F R q
  refine hv A T he Oc O s fz _ _ g F R fun v h₁ tk k₁ g₁ r₁ => ?_
  have F₁ := F.kp k₁
  obtain ⟨l, vs, rfl, hlO, ⟨n, ho⟩, hl, hr⟩ := r₁.isList
  refine wpAny_pyIter_list hl ?_
  have kp : Kp C C.T h₁ (h₁.push { cls := .type "list_iterator", data := .fields #[.ref l, .int 0 0] }) := .push ..
  have hsz := Heap.get?_push_size h₁ (o := { cls := .type "list_iterator", data := .fields #[.ref l, .int 0 0] }) rfl
  refine q _ (bList _ l) _ _ tk (k₁.fresh (size_none h₁)) Itr.list (k₁.trans' kp) (g₁.push _) (F₁.alloc g₁ (size_none _) kp hsz) fun T he hh => ?_
  refine ⟨⟨rfl, .head _, g₁.freshT (size_none _), .inl hh, _, hsz, ⟨rfl, rfl⟩, fld_li (T := "") rfl⟩, _, rfl, ?_⟩
  exact kp.rep (fun a z => List.mem_cons_of_mem _ (F.tabs a z)) (r₁.sub fun a z => (List.mem_cons.mp z).elim (fun z => .inr (z ▸ size_none _)) .inl)
theorem EvI.tup {e : Expr} {xs : List PyData} (hv : Ev C k env m e (.tuple xs)) : EvI C k env m e xs := by
  intro A T he Oc O s fz Q E g F R q
  refine hv A T he Oc O s fz _ _ g F R fun v h₁ tk k₁ g₁ r₁ => ?_
  have F₁ := F.kp k₁
  refine r₁.tup_ fun l n vs hlO ho hr => ?_
  have r₁ : Rep O h₁ (.ref l) (.tuple xs) := .tuple vs hlO ho hr
  · refine iter_tuple (items := vs.toArray) ⟨_, ho, rfl, _, rfl⟩ ?_
    have kp : Kp C C.T h₁ (h₁.push { cls := .type "tuple_iterator", data := .fields #[.ref l, .int 0 0] }) := .push ..
    have hsz := Heap.get?_push_size h₁ (o := { cls := .type "tuple_iterator", data := .fields #[.ref l, .int 0 0] }) rfl
    refine q _ (bTup _ l) _ _ tk (k₁.fresh (size_none h₁)) Itr.tup (k₁.trans' kp) (g₁.push _) (F₁.alloc g₁ (size_none _) kp hsz) fun T he hh => ?_
    refine ⟨⟨rfl, .head _, g₁.freshT (size_none _), .inl hh, _, hsz, ⟨rfl, rfl⟩, fld_li (T := "") rfl⟩, _, rfl, ?_⟩
    exact kp.rep (fun a z => List.mem_cons_of_mem _ (F.tabs a z)) (r₁.sub fun a z => (List.mem_cons.mp z).elim (fun z => .inr (z ▸ size_none _)) .inl)
theorem EvI.range {p pos : Pos} {e : Expr} {n : Int} (hf : EvB C k env m (.Name "range" p) (.v (.type "range"))) (hv : Ev C k env m e (.int n)) (hlo : -(2 ^ 62) ≤ n) (hhi : n < 2 ^ 62) (hns : NoStar [e])
    (hs : starEach [e] env = [(false, eval e env)] := by rfl) : EvI C k env m (.Call (.Name "range" p) [e] [] pos) (rng n.toNat) := by
  intro A T he Oc O s fz Q E g F R q
  refine wpAny_Call_Name_kw (hf A T he Oc O s fz _ _ g F R fun v tk r => ?_)
  cases r
  refine callWith_fn (.ty "range") (hns _ _) (Evs.cons hv Evs.nil hs A T he Oc O _ fz pos _ _ g F R fun vs h₁ tk₁ k₁ g₁ r₁ => ⟨g₁, ?_⟩)
  refine r₁.one_ fun v h1 => h1.int_ fun _ => ?_
  · have F₁ := F.kp k₁
    refine call_range_1 ?_
    refine wpAny_pyIter_range (IsRange.new ..) (small_one (by decide) (by decide) hlo hhi) ?_
    have hsz : Builtin.Range.rangeSize 0 n 1 = (n.toNat : Int) := by rw [rangeSize_one]; split <;> omega
    rw [hsz]
    dsimp only
    generalize hH : h₁.push _ = H
    have k2 : Kp C C.T h₁ H := hH ▸ Kp.push ..
    have g2 : GI C H := hH ▸ g₁.push _
    have F2 := F₁.kp k2
    have kp : Kp C C.T H (H.push { cls := .type "range_iterator", data := .fields #[rawInt 0, rawInt (n.toNat : Int), rawInt 1] }) := .push ..
    have hsz2 := Heap.get?_push_size H (o := { cls := .type "range_iterator", data := .fields #[rawInt 0, rawInt (n.toNat : Int), rawInt 1] }) rfl
    refine q _ (bRng _ n.toNat) _ _ _ (k₁.fresh (k2.fresh (size_none H))) Itr.range ((k₁.trans' k2).trans' kp) (g2.push _) (F2.alloc g2 (size_none _) kp hsz2) fun T he hh => ?_
    exact ⟨⟨rfl, .head _, g2.freshT (size_none _), .inl hh, _, hsz2, by simp, _, rfl, fun x t' e => by simp [rawInt] at e⟩, .none, rfl⟩
theorem EvI.rev {p pos : Pos} {e : Expr} {xs : List PyData} (hf : EvB C k env m (.Name "reversed" p) (.v (.type "reversed"))) (hv : Ev C k env m e (.list xs)) (hns : NoStar [e])
    (hs : starEach [e] env = [(false, eval e env)] := by rfl) : EvI C k env m (.Call (.Name "reversed" p) [e] [] pos) xs.reverse := by
  intro A T he Oc O s fz Q E g F R q
  refine wpAny_Call_Name_kw (hf A T he Oc O s fz _ _ g F R fun v tk r => ?_)
  cases r
  refine callWith_fn (.ty "reversed") (hns _ _) (Evs.cons hv Evs.nil hs A T he Oc O _ fz pos _ _ g F R fun vs h₁ tk₁ k₁ g₁ r₁ => ⟨g₁, ?_⟩)
  refine r₁.one_ fun v r₁ => ?_
  · have F₁ := F.kp k₁
    obtain ⟨l, vs, rfl, hlO, ⟨n, ho⟩, hl, hr⟩ := Rep.isList r₁
    refine call_reversed_list hl ?_
    have hlen : ((vs.toArray.size : Nat) : Int) - 1 = (xs.length : Int) - 1 - ((0 : Nat) : Int) := by simp [hr.length]
    rw [hlen]
    have kp : Kp C C.T h₁ (h₁.push (revObj l ((xs.length : Int) - 1 - ((0 : Nat) : Int)))) := .push ..
    have hsz := Heap.get?_push_size h₁ (o := revObj l ((xs.length : Int) - 1 - ((0 : Nat) : Int))) rfl
    refine wpAny_pyIter_revIter ⟨_, hsz, rfl, rfl⟩ ?_
    refine q _ (bRev _ l xs.length) _ _ _ (k₁.fresh (size_none h₁)) Itr.rev (k₁.trans' kp) (g₁.push _) (F₁.alloc g₁ (size_none _) kp hsz) fun T he hh => ?_
    refine ⟨⟨rfl, .head _, g₁.freshT (size_none _), .inl hh, _, hsz, ⟨rfl, rfl⟩, fld_li (T := "") rfl⟩, _, rfl, ?_⟩
    exact kp.rep (fun a z => List.mem_cons_of_mem _ (F.tabs a z)) (r₁.sub fun a z => (List.mem_cons.mp z).elim (fun z => .inr (z ▸ size_none _)) .inl)
end

/-- a target's names -/
noncomputable def Asg (C : Cfg) (k : Nat) (env : Env) (fz : Bool) (tg : Expr) (d : PyData) (m m' : Mp) : Prop :=
  ∀ (A : Around) (T : List Addr) (he : Heap) (Oc O : List Addr) (s : Shared) (v : Value) (Q : Unit → Shared → Prop) (E : Value → Shared → Prop), GI C s.heap → FS C T env he Oc O s.heap fz m → Room C k A s.heap → Rep O s.heap v d →
    (∀ h' tk, Kd s.heap h' → GI C h' → FS C T env he Oc O h' fz m' → Q () { s with heap := h', toks := tk }) → wpAny C.M A (assign tg env v) Q E s
noncomputable def CanBind (env : Env) (fz : Bool) (x : Str) : Prop := (env.kindOf x = some .local ∨ env.kindOf x = some .cell) ∧ (env.kindOf x = some .cell → fz = false ∧ (env.cells.lookup x).isSome = true)
section
variable {C : Cfg} {k : Nat} {env : Env} {m : Mp} {fz : Bool}
theorem Asg.name {x : Str} {p : Pos} {d : PyData} (hx : CanBind env fz x) : Asg C k env fz (.Name x p) d m ((x, .d d) :: m) := by
  intro A T he Oc O s v Q E g F R r q
  exact wpAny_assign_Name (F.bind g hx.1 hx.2 (b := .d d) r (.none rfl) fun h' tk kp g' F' => q h' tk kp.dict g' F')
theorem Asg.two {x y : Str} {p1 p2 p : Pos} {kk : Nat} {d1 d2 : PyData} (hx : CanBind env fz x) (hy : CanBind env fz y) : Asg C k env fz (.Tuple [.Name x p1, .Name y p2] kk p) (.tuple [d1, d2]) m ((y, .d d2) :: (x, .d d1) :: m) := by
  intro A T he Oc O s v Q E g F R r q
  refine r.tup_ fun a n vs hn ho hr => ?_
  revert ho
  refine hr.two_ fun v1 v2 r1 r2 ho => ?_
  · · · refine assign_Tuple_tuple (items := [v1, v2].toArray) R.handled ⟨_, ho, rfl, _, rfl⟩ rfl rfl fun h' hs => ?_
        have kp : Kp C C.T s.heap h' := .of_keeps fun b o e => hs b o (fun z => by rw [z, size_none] at e; cases e) e
        show wpAny C.M A (assignInOrder [assign (.Name x p1) env, assign (.Name y p2) env] [v1, v2]) Q E _
        have F1 := F.kp kp
        have g1 : GI C h' := g.keepAll fun b o e => hs b o (fun z => by rw [z, size_none] at e; cases e) e
        refine wpAny_bind (wpAny_holding (wpAny_assign_Name ((F1.bind (s := { s with heap := h' }) g1 hx.1 hx.2 (b := .d d1) (kp.rep F.tabs r1) (.none rfl) fun h₂ tk₂ kp2 g2 F2 => ?_))))
        refine wpAny_bind (wpAny_holding (wpAny_assign_Name ((F2.bind (s := { s with heap := h₂, toks := tk₂ }) g2 hy.1 hy.2 (b := .d d2) (kp2.rep (fun _ q => q) (kp.rep F.tabs r2)) (.none rfl) fun h₃ tk₃ kp3 g3 F3 => ?_))))
        exact wpAny_pure (q h₃ tk₃ (Kd.trans (Kd.trans kp.dict kp2.dict) kp3.dict) g3 F3)
end

/-- the tests of a comprehension -/
noncomputable def Tes (C : Cfg) (k : Nat) (env : Env) (m : Mp) (ifs : List Expr) (b : Bool) : Prop := (ifs = [] ∧ b = true) ∨ ∃ t, ifs = [t] ∧ Te C k env m t b
noncomputable def closOf (env : Env) : List (Str × NameKind) → List (Str × Addr) → List (Str × Addr)
  | [], acc => acc
  | (n, k) :: r, acc => if k == .free then (match env.cells.lookup n with | some c => closOf env r ((n, c) :: acc) | none => closOf env r acc) else closOf env r acc
noncomputable def compOk (scope : Scope) (env : Env) : Bool := scope.kind == .function && scope.names.all fun x => match x.2 with
  | .free => (env.kindOf x.1 == some .cell || env.kindOf x.1 == some .free) && (env.cells.lookup x.1).isSome && scope.names.lookup x.1 == some .free
  | .cell => false
  | .local => scope.names.lookup x.1 == some .local
  | _ => true
section
variable {scope : Scope} {env : Env}
theorem closOf_eq : ∀ (names : List (Str × NameKind)) (acc : List (Str × Addr)), (∀ x ∈ names, x.2 = .free → (env.cells.lookup x.1).isSome = true) →
    (forIn names acc fun x (r : List (Str × Addr)) => (if x.2 == .free then (do let a ← cellOf env x.1; pure (ForInStep.yield ((x.1, a) :: r))) else pure (ForInStep.yield r) : Sem (ForInStep (List (Str × Addr))))) = pure (closOf env names acc)
  | [], acc, _ => by rw [List.forIn_nil]; rfl
  | (n, k) :: r, acc, hx => by
    rw [List.forIn_cons]
    unfold closOf
    cases hk : (k == NameKind.free) with
    | false =>
      simp only [hk, Bool.false_eq_true, if_false, pure_bind]
      exact closOf_eq r acc fun x hm => hx x (List.mem_cons_of_mem _ hm)
    | true =>
      simp only [hk, if_true]
      obtain ⟨c, hc⟩ := Option.isSome_iff_exists.mp (hx (n, k) (.head _) (by simpa using hk))
      have e : cellOf env n = pure c := by unfold cellOf; rw [show env.cells.lookup n = some c from hc]
      rw [e, show env.cells.lookup n = some c from hc]
      simp only [pure_bind]
      exact closOf_eq r _ fun x hm => hx x (List.mem_cons_of_mem _ hm)
theorem closOf_sub : ∀ (names : List (Str × NameKind)) (acc : List (Str × Addr)) (x : Str) (c : Addr), (∀ x c, acc.lookup x = some c → env.cells.lookup x = some c) → (closOf env names acc).lookup x = some c → env.cells.lookup x = some c
  | [], acc, x, c, ha, h => ha x c h
  | (n, k) :: r, acc, x, c, ha, h => by
    unfold closOf at h
    split at h
    · split at h
      · rename_i c' hc'
        refine closOf_sub r _ x c (fun y d hy => ?_) h
        rw [List.lookup_cons] at hy
        cases hb : y == n with
        | true => rw [hb] at hy; cases hy; rw [beq_iff_eq.mp hb]; exact hc'
        | false => rw [hb] at hy; exact ha y d hy
      · exact closOf_sub r _ x c ha h
    · exact closOf_sub r _ x c ha h
theorem closOf_some : ∀ (names : List (Str × NameKind)) (acc : List (Str × Addr)) (x : Str), ((acc.lookup x).isSome = true ∨ ∃ k, (x, k) ∈ names ∧ k = .free ∧ (env.cells.lookup x).isSome = true) → ((closOf env names acc).lookup x).isSome = true
  | [], acc, x, h => h.elim id fun ⟨_, h, _⟩ => nomatch h
  | (n, k) :: r, acc, x, h => by
    unfold closOf
    split
    · rename_i hk
      split
      · rename_i c' hc'
        refine closOf_some r _ x ?_
        rw [List.lookup_cons]
        cases hb : x == n with
        | true => exact .inl rfl
        | false =>
          rcases h with h | ⟨k', hm, h2⟩
          · exact .inl h
          · rcases List.mem_cons.mp hm with e | hm
            · cases e; simp at hb
            · exact .inr ⟨k', hm, h2⟩
      · rename_i hn
        refine closOf_some r _ x ?_
        rcases h with h | ⟨k', hm, h2, h3⟩
        · exact .inl h
        · rcases List.mem_cons.mp hm with e | hm
          · cases e; rw [hn] at h3; cases h3
          · exact .inr ⟨k', hm, h2, h3⟩
    · rename_i hk
      refine closOf_some r _ x ?_
      rcases h with h | ⟨k', hm, h2, h3⟩
      · exact .inl h
      · rcases List.mem_cons.mp hm with e | hm
        · cases e; subst h2; exact absurd rfl hk
        · exact .inr ⟨k', hm, h2, h3⟩
theorem clos_eq (ok : compOk scope env = true) : closureFor scope env = pure (closOf env scope.names []) := by
  unfold compOk at ok
  simp only [Bool.and_eq_true, List.all_eq_true] at ok
  have := closOf_eq (env := env) scope.names [] fun x hm hk => by
    have := ok.2 x hm
    rw [hk] at this
    simp only [Bool.and_eq_true] at this
    exact this.1.2
  unfold closureFor
  first
    | exact this
    | (simp only [bind_pure]; exact this)
    | (show (forIn _ _ _ >>= fun r => pure r) = _; rw [bind_pure]; exact this)
theorem relabel_kind (ok : compOk scope env = true) {x : Str} {cl : List (Str × Addr)} {L : Addr} (hk : (compEnvC scope cl L env).kindOf x = some .cell ∨ (compEnvC scope cl L env).kindOf x = some .free) :
    scope.names.lookup x = some .free ∧ (env.kindOf x = some .cell ∨ env.kindOf x = some .free) := by
  have aux : ∀ (names : List (Str × NameKind)), (∀ y ∈ names, y.2 ≠ .cell) → ((names.map fun (n, k) => if (k == NameKind.free && env.scope.kind == .function && env.kindOf n == some .cell) then (n, NameKind.cell) else (n, k)).lookup x = some .cell ∨
      (names.map fun (n, k) => if (k == NameKind.free && env.scope.kind == .function && env.kindOf n == some .cell) then (n, NameKind.cell) else (n, k)).lookup x = some .free) → names.lookup x = some .free := by
    intro names
    induction names with
    | nil => intro _ h; rcases h with h | h <;> cases h
    | cons y r ih =>
      obtain ⟨n, k⟩ := y
      intro hc h
      rw [List.map_cons] at h
      by_cases hcond : (k == NameKind.free && env.scope.kind == .function && env.kindOf n == some .cell) = true
      · simp only [hcond, if_true, List.lookup_cons] at h ⊢
        cases hb : x == n with
        | true =>
          simp only [Bool.and_eq_true, beq_iff_eq] at hcond
          rw [hcond.1.1]
        | false => rw [hb] at h; exact ih (fun y hy => hc y (List.mem_cons_of_mem _ hy)) h
      · simp only [hcond, Bool.false_eq_true, if_false, List.lookup_cons] at h ⊢
        cases hb : x == n with
        | true =>
          rw [hb] at h
          rcases h with h | h
          · cases h; exact absurd rfl (hc (n, .cell) (.head _))
          · cases h; rfl
        | false => rw [hb] at h; exact ih (fun y hy => hc y (List.mem_cons_of_mem _ hy)) h
  unfold compOk at ok
  simp only [Bool.and_eq_true, List.all_eq_true] at ok
  have h1 := aux scope.names (fun y hy e => by have := ok.2 y hy; rw [e] at this; cases this) hk
  refine ⟨h1, ?_⟩
  have := ok.2 _ (mem_of_lookup h1)
  simp only [Bool.and_eq_true, Bool.or_eq_true, beq_iff_eq] at this
  exact this.1.1
theorem relabel_local (ok : compOk scope env = true) {x : Str} {cl : List (Str × Addr)} {L : Addr} (hk : (compEnvC scope cl L env).kindOf x = some .local) : scope.names.lookup x = some .local := by
  have aux : ∀ (names : List (Str × NameKind)), (names.map fun (n, k) => if (k == NameKind.free && env.scope.kind == .function && env.kindOf n == some .cell) then (n, NameKind.cell) else (n, k)).lookup x = some .local → names.lookup x = some .local := by
    intro names
    induction names with
    | nil => intro h; cases h
    | cons y r ih =>
      obtain ⟨n, k⟩ := y
      intro h
      rw [List.map_cons] at h
      by_cases hcond : (k == NameKind.free && env.scope.kind == .function && env.kindOf n == some .cell) = true
      · simp only [hcond, if_true, List.lookup_cons] at h ⊢
        cases hb : x == n with
        | true => rw [hb] at h; cases h
        | false => rw [hb] at h; exact ih h
      · simp only [hcond, Bool.false_eq_true, if_false, List.lookup_cons] at h ⊢
        cases hb : x == n with
        | true => rw [hb] at h; cases h; rfl
        | false => rw [hb] at h; exact ih h
  exact aux _ hk
end

theorem Bears.val {C : Cfg} {T he O h v b a} (x : Bears C T he O h v b) (hb : b.addr = some a) : v = .ref a := by
  cases b with
  | d => cases hb
  | v => cases hb
  | r => cases hb
  | L a' ds => cases hb; exact x.1
  | ob a' P => cases hb; exact x.1
section
variable {C : Cfg} {T : List Addr} {env : Env} {he : Heap} {Oc O : List Addr} {h h' : Heap} {m m' : Mp} {fz : Bool}
theorem FS.get {x : Str} {b : Bd} (F : FS C T env he Oc O h fz m) (e : m.lookup x = some b) : ∃ v, Bears C T he O h v b := by
  obtain ⟨mm, _, q⟩ := F.bear; exact (q x b e).2.2
theorem FS.getA {x : Str} {b : Bd} {a : Addr} (F : FS C T env he Oc O h fz m) (e : m.lookup x = some b) (hb : b.addr = some a) : Bears C T he O h (.ref a) b := by
  obtain ⟨v, q⟩ := F.get e
  have := q.val hb; subst this; exact q
theorem Te.sub {k : Nat} {e : Expr} {b : Bool} (h : Te C k env m e b) (hs : Sub m' m) : Te C k env m' e b := fun A T he Oc O s fz Q E g F R p => h A T he Oc O s fz Q E g (F.sub hs) R p
theorem Tes.sub {k : Nat} {e : List Expr} {b : Bool} (h : Tes C k env m e b) (hs : Sub m' m) : Tes C k env m' e b := h.imp id fun ⟨t, e, x⟩ => ⟨t, e, x.sub hs⟩
theorem Tes.run {k : Nat} {ifs : List Expr} {b : Bool} (h : Tes C k env m ifs b) (A : Around) (T : List Addr) (he : Heap) (Oc O : List Addr) (s : Shared) (fz : Bool) (Q : Bool → Shared → Prop) (E : Value → Shared → Prop)
    (g : GI C s.heap) (F : FS C T env he Oc O s.heap fz m) (R : Room C k A s.heap) (p : ∀ h' tk, Kp C C.T s.heap h' → GI C h' → Q b { s with heap := h', toks := tk }) :
    wpAny C.M A (forIn ifs true fun c r => if r = true then do let ok ← isTrue c env (eval c env); pure (ForInStep.yield ok) else pure (ForInStep.yield r)) Q E s := by
  rcases h with ⟨rfl, rfl⟩ | ⟨t, rfl, ht⟩
  · exact wpAny_tests_nil (p s.heap s.toks (.refl ..) g)
  · exact wpAny_tests_one (ht A T he Oc O s fz Q E g F R p)
end
theorem codeAny_compLoop_own {prog : Program} {w : World} {A : Around} {R : Result → Shared → Prop} {s : Shared} {elt target iter : Expr} {ifs : List Expr} {scope : Scope} {pos : Pos} {it acc : Value} {env : Env} (I : Nat → Shared → Prop)
    (turn : ∀ n s, I n s → wpAny (model prog w) A (pyNext it) (fun r s₁ => match r with
      | none => R (.ok .next) s₁
      | some v => wpAny (model prog w) A (letOwnedTupleGo target it v) (fun _ s₁ => wpAny (model prog w) A (assign target env v) (fun _ s₂ =>
          wpAny (model prog w) A (forIn ifs true fun c r => if r = true then do let ok ← isTrue c env (eval c env); pure (ForInStep.yield ok) else pure (ForInStep.yield r)) (fun ok s₃ =>
            if ok = true then wpAny (model prog w) A (eval elt env) (fun x s₄ =>
              wpAny (model prog w) A (call (.builtin "list.append") [acc, x]) (fun _ s₅ => ∃ m, m < n ∧ I m s₅) (notedBy (model prog w) A env fun e s' => R (.error e) s') s₄) (notedBy (model prog w) A env fun e s' => R (.error e) s') s₃
            else ∃ m, m < n ∧ I m s₃) (notedBy (model prog w) A env fun e s' => R (.error e) s') s₂) (notedBy (model prog w) A env fun e s' => R (.error e) s') s₁) (notedBy (model prog w) A env fun e s' => R (.error e) s') s₁) (notedBy (model prog w) A env fun e s' => R (.error e) s') s)
    (n : Nat) (h : I n s) : codeAny (model prog w) A (.compLoop (.ListComp elt [⟨target, iter, ifs, 0⟩] scope pos) 0 it acc env) R s := by
  refine codeAny_loop rfl I (fun n s hI => ?_) n h
  show wpAny _ A ((compTurn (.ListComp elt [⟨target, iter, ifs, 0⟩] scope pos) 0 it acc env).onRaise (fun x => do noteFrame x env; theTreesLotGoes x)) _ _ s
  refine wpAny_noted ?_
  rw [compTurn_list]
  refine wpAny_bind (wpAny_standAt (wpAny_bind (wpAny_mono (turn n s hI) (fun r s₁ h₁ => ?_) fun _ _ h' => h')))
  cases r with
  | none => exact wpAny_pure h₁
  | some v =>
    refine wpAny_bind (wpAny_mono h₁ (fun _ s₁ h₁ => wpAny_bind (wpAny_mono h₁ (fun _ s₂ h₂ => wpAny_bind (wpAny_mono h₂ (fun ok s₃ h₃ => ?_) fun _ _ h' => h')) fun _ _ h' => h')) fun _ _ h' => h')
    cases ok with
    | false => exact wpAny_pure ⟨rfl, h₃⟩
    | true =>
      simp only [if_true] at h₃
      exact wpAny_bind (wpAny_bind (wpAny_mono h₃ (fun x s₄ h₄ => wpAny_bind (wpAny_mono h₄ (fun _ s₅ h₅ => wpAny_pure (wpAny_pure ⟨rfl, h₅⟩)) fun _ _ h' => h')) fun _ _ h' => h'))

noncomputable def outs (tst : PyData → Bool) (f : PyData → PyData) (xs : List PyData) : List PyData := xs.filterMap fun d => if tst d = true then some (f d) else none
theorem outs_snoc (tst : PyData → Bool) (f : PyData → PyData) {xs : List PyData} {i : Nat} {d : PyData} (h : xs[i]? = some d) : outs tst f (xs.take (i + 1)) = outs tst f (xs.take i) ++ (if tst d = true then [f d] else []) := by
  have : xs.take (i + 1) = xs.take i ++ [d] := by rw [List.take_add_one, h]; rfl
  rw [this, outs, List.filterMap_append]
  congr 1
  by_cases ht : tst d = true <;> simp [ht]
noncomputable abbrev kI : Str := Str.ofString "!i"
noncomputable abbrev kS : Str := Str.ofString "!s"
noncomputable abbrev kA : Str := Str.ofString "!a"
/-- the body of a comprehension, item by item -/
noncomputable def CompBody (C : Cfg) (k : Nat) (env : Env) (scope : Scope) (mc : Mp) (tg : Expr) (ifs : List Expr) (elt : Expr) (tst : PyData → Bool) (f : PyData → PyData) (xs : List PyData) : Prop :=
  ∀ L' d, d ∈ xs → ∃ binds : Mp, (∀ m, Asg C k (compEnvC scope (closOf env scope.names []) L' env) true tg d m (binds ++ m)) ∧
    (∀ y, binds.lookup y ≠ none → mc.lookup y = none) ∧ (∀ y, y = kI ∨ y = kS ∨ y = kA → binds.lookup y = none) ∧
    Tes C k (compEnvC scope (closOf env scope.names []) L' env) (binds ++ mc) ifs (tst d) ∧ (tst d = true → Ev C k (compEnvC scope (closOf env scope.names []) L' env) (binds ++ mc) elt (f d))
/-- what a comprehension may see of a frame's names -/
structure Seen (scope : Scope) (m mc : Mp) : Prop where
  sub : ∀ y b, mc.lookup y = some b → m.lookup y = some b ∧ b.addr = none ∧ scope.names.lookup y ≠ some .local
  own : mc.lookup kI = none ∧ mc.lookup kS = none ∧ mc.lookup kA = none ∧ scope.names.lookup kI = none ∧ scope.names.lookup kS = none ∧ scope.names.lookup kA = none
theorem lookup_append {x : Str} : ∀ {a b : Mp}, (a ++ b).lookup x = (a.lookup x).or (b.lookup x)
  | [], b => rfl
  | (n, c) :: a, b => by
    rw [List.cons_append, List.lookup_cons, List.lookup_cons]
    cases x == n with
    | true => rfl
    | false => exact lookup_append

section
variable {C : Cfg} {k : Nat} {env : Env} {m mc : Mp}
theorem FS.comp {scope : Scope} {T : List Addr} {he : Heap} {Oc O : List Addr} {h₀ h₂ h₄ : Heap} {fz : Bool} {I : Addr} {bI bS : Bd} (F : FS C T env he Oc O h₀ fz m) (ok : compOk scope env = true) (sn : Seen scope m mc)
    (g₀ : GI C h₀) (g₂ : GI C h₂) (hI : h₀.get? I = none) (kp : Kp C C.T h₀ h₂) (hbI : bI.addr = some I) (hbS : bS.addr = none)
    (bears : ∀ T he, he.get? I = none → Bears C T he (I :: O) h₂ (.ref I) bI ∧ ∃ v, Bears C T he (I :: O) h₂ v bS) (hIl : ∃ o, h₂.get? I = some o)
    (hn : h₄.Ns (h₂.objs.size + 1) fun x => (([] : List (Str × Value)).reverse).lookup x) (hs : Heap.SameBut (h₂.objs.size + 1) ((h₂.push { cls := .type "list", data := .seq ([] : List Value).toArray }).push { cls := .type "dict", data := .dict #[] }) h₄) :
    FS C C.T (compEnvC scope (closOf env scope.names []) (h₂.objs.size + 1) env) h₀ O ((h₂.objs.size + 1) :: h₂.objs.size :: I :: O) h₄ true ((kI, bI) :: (kS, bS) :: (kA, .L h₂.objs.size []) :: mc) ∧ GI C h₄ ∧ Kp C C.T h₀ h₄ := by
  have hsz1 : (h₂.push { cls := .type "list", data := .seq ([] : List Value).toArray }).objs.size = h₂.objs.size + 1 := Heap.size_push ..
  have up : ∀ b o, h₂.get? b = some o → h₄.get? b = some o := fun b o e => by
    have hlt := Heap.lt_size e
    rw [hs.2 b (Nat.ne_of_lt (Nat.lt_succ_of_lt hlt))]
    exact Heap.get?_push_of_some _ (Heap.get?_push_of_some _ e)
  have hD : h₄.get? h₂.objs.size = some { cls := .type "list", data := .seq ([] : List Value).toArray } := by
    rw [hs.2 _ (Nat.ne_of_lt (Nat.lt_succ_self _))]
    exact Heap.get?_push_of_some _ (Heap.get?_push_size _ rfl)
  have g₄ : GI C h₄ := g₂.keepAll up
  have kp4 : Kp C C.T h₀ h₄ := kp.trans' (.of_keeps up)
  have n2 : h₂.get? h₂.objs.size = none := size_none _
  have n3 : h₂.get? (h₂.objs.size + 1) = none := by
    cases e : h₂.get? (h₂.objs.size + 1) with
    | none => rfl
    | some o => exact absurd (Heap.lt_size e) (Nat.not_lt.mpr (Nat.le_succ _))
  obtain ⟨oI, hIl⟩ := hIl
  have hIlt := Heap.lt_size hIl
  have nIC : (h₂.objs.size + 1) ≠ I := Ne.symm (Nat.ne_of_lt (Nat.lt_succ_of_lt hIlt))
  have nID : h₂.objs.size ≠ I := Ne.symm (Nat.ne_of_lt hIlt)
  have nOC : h₂.objs.size + 1 ∉ I :: O := fun z => (List.mem_cons.mp z).elim nIC fun z => by obtain ⟨_, o, e⟩ := F.av _ z; obtain ⟨o', e'⟩ := kp.live _ _ e; rw [n3] at e'; cases e'
  have nOD : h₂.objs.size ∉ I :: O := fun z => (List.mem_cons.mp z).elim nID fun z => by obtain ⟨_, o, e⟩ := F.av _ z; obtain ⟨o', e'⟩ := kp.live _ _ e; rw [n2] at e'; cases e'
  have mvr : ∀ {b vs ds}, RepG (I :: O) h₂ b vs ds → RepG ((h₂.objs.size + 1) :: h₂.objs.size :: I :: O) h₄ b vs ds := fun r => r.moved fun a o xs n ha e _ =>
    ⟨up a o e, fun z => by
      rcases List.mem_cons.mp z with z | z
      · rw [z, n3] at e; cases e
      · rcases List.mem_cons.mp z with z | z
        · rw [z, n2] at e; cases e
        · exact ha z⟩
  have mv : ∀ v b, Bears C C.T h₀ (I :: O) h₂ v b → Bears C C.T h₀ ((h₂.objs.size + 1) :: h₂.objs.size :: I :: O) h₄ v b := fun v b z => z.moved
    (fun _ q => List.mem_cons_of_mem _ (List.mem_cons_of_mem _ q)) (fun a o e ha _ => ⟨up a o e, fun z => by
      rcases List.mem_cons.mp z with z | z
      · rw [z, n3] at e; cases e
      · rcases List.mem_cons.mp z with z | z
        · rw [z, n2] at e; cases e
        · exact ha z⟩) fun a o _ e _ _ => up a o e
  have rO : ∀ {b vs ds}, RepG O h₀ b vs ds → RepG ((h₂.objs.size + 1) :: h₂.objs.size :: I :: O) h₄ b vs ds := fun r =>
    mvr (kp.rep (fun a z => List.mem_cons_of_mem _ (F.tabs a z)) (r.sub fun a z => (List.mem_cons.mp z).elim (fun z => .inr (z ▸ hI)) .inl))
  have nad : ∀ {b : Bd} {v T' he'}, b.addr = none → Bears C T' he' O h₀ v b → Bears C C.T h₀ ((h₂.objs.size + 1) :: h₂.objs.size :: I :: O) h₄ v b := by
    intro b v T' he' hb z
    cases b with
    | d y => exact rO z
    | v u => exact z
    | r u y => exact ⟨z.1, rO z.2⟩
    | L a ds => cases hb
    | ob a P => cases hb
  have notl : ∀ {x : Str}, scope.names.lookup x = none → Pseudo (compEnvC scope (closOf env scope.names []) (h₂.objs.size + 1) env) x := fun {x} hx =>
    ⟨fun z => (by have := relabel_local ok z; rw [hx] at this; cases this), fun z => (by have := (relabel_kind ok (.inl z)).1; rw [hx] at this; cases this), fun z => (by have := (relabel_kind ok (.inr z)).1; rw [hx] at this; cases this)⟩
  obtain ⟨o1, o2, o3, o4, o5, o6⟩ := sn.own
  obtain ⟨mm, hnn, hm⟩ := F.bear
  have base : FS C C.T (compEnvC scope (closOf env scope.names []) (h₂.objs.size + 1) env) h₀ O ((h₂.objs.size + 1) :: h₂.objs.size :: I :: O) h₄ true mc := by
    refine ⟨?_, F.glob, F.blt, fun b hb => List.mem_cons_of_mem _ (List.mem_cons_of_mem _ (List.mem_cons_of_mem _ (F.tabs b hb))), fun _ z => z, F.tabs, fun b hb => ⟨List.mem_cons_of_mem _ (List.mem_cons_of_mem _ (List.mem_cons_of_mem _ hb)), (F.av b hb).2⟩, ?_, ⟨.head _, kp.fresh n3⟩, ?_, ?_, ⟨_, hn, fun x b e => ?_⟩, ?_, kp4⟩
    · unfold compOk at ok; simp only [Bool.and_eq_true, beq_iff_eq] at ok; exact ok.1
    · intro b hb
      rcases List.mem_cons.mp hb with rfl | hb
      · obtain ⟨o, es, ep, e, _⟩ := hn
        exact ⟨g₂.fresh n3, o, e⟩
      · rcases List.mem_cons.mp hb with rfl | hb
        · exact ⟨g₂.fresh n2, _, hD⟩
        · rcases List.mem_cons.mp hb with rfl | hb
          · exact ⟨g₀.fresh hI, _, up _ _ hIl⟩
          · obtain ⟨e1, o, e⟩ := F.av b hb
            obtain ⟨o', e'⟩ := kp.live _ _ e
            exact ⟨e1, o', up _ _ e'⟩
    · intro x c e
      obtain ⟨a1, ⟨v, a2⟩, _⟩ := F.cells x c (closOf_sub _ _ x c (fun _ _ z => by cases z) e)
      exact ⟨fun z => a1 (F.tT _ z), ⟨v, kp4.cell (fun z => a1 (F.tT _ z)) a2⟩, nofun⟩
    · intro x y c e1 e2
      exact F.apart x y c (closOf_sub _ _ x c (fun _ _ z => by cases z) e1) (closOf_sub _ _ y c (fun _ _ z => by cases z) e2)
    · obtain ⟨e1, e2, e3⟩ := sn.sub x b e
      obtain ⟨q1, q2, v, q3⟩ := hm x b e1
      refine ⟨fun z => absurd (relabel_local ok z) e3, fun z => ?_, v, nad e2 q3⟩
      obtain ⟨z1, z2⟩ := relabel_kind ok z
      obtain ⟨c, v, w1, w2, w3⟩ := q2 z2
      refine ⟨c, v, ?_, kp4.cell (fun z => (F.cells x c w1).1 (F.tT _ z)) w2, nad e2 w3⟩
      have hsome := closOf_some (env := env) scope.names [] x (.inr ⟨.free, mem_of_lookup z1, rfl, by rw [w1]; rfl⟩)
      obtain ⟨c', hc'⟩ := Option.isSome_iff_exists.mp hsome
      have := closOf_sub scope.names [] x c' (fun _ _ z => by cases z) hc'
      rw [w1] at this; cases this
      exact hc'
    · intro x y bx by' a e1 e2 a1 a2
      rw [(sn.sub x bx e1).2.1] at a1; cases a1
  obtain ⟨b1, v, b2⟩ := bears C.T h₀ hI
  have nm : ∀ (x : Str) b', mc.lookup x = some b' → b'.addr = none := fun x b' e => (sn.sub x b' e).2.1
  have F1 := base.put (v := .ref h₂.objs.size) (b := .L h₂.objs.size []) (notl o6) ⟨rfl, List.mem_cons_of_mem _ (.head _), g₂.freshT n2, .inl (kp.fresh n2), [], _, hD, .nil⟩ (fun y by' a _ e1 e2 _ => by rw [nm y by' e1] at e2; cases e2)
  have F2 := F1.put (v := v) (b := bS) (notl o5) (mv _ _ b2) (.none hbS)
  have F3 := F2.put (v := .ref I) (b := bI) (notl o4) (mv _ _ b1) (fun y by' a hy e1 e2 e3 => by
    rw [hbI] at e3; cases e3
    by_cases h5 : y = kS
    · subst h5; rw [lk_self] at e1; cases e1; rw [hbS] at e2; cases e2
    · rw [lk_ne h5] at e1
      by_cases h6 : y = kA
      · subst h6; rw [lk_self] at e1; cases e1; exact nID (Option.some.inj e2)
      · rw [lk_ne h6, ] at e1; rw [nm y by' e1] at e2; cases e2)
  exact ⟨F3, g₄, kp4⟩
end

section
variable {C : Cfg} {k : Nat} {env : Env} {m mc : Mp}
theorem FS.isList {T env he Oc O h fz m x a ds} (F : FS C T env he Oc O h fz m) (e : m.lookup x = some (.L a ds)) : ∃ vs, h.PlainList a (List.toArray vs) ∧ Reps O h vs ds := by
  obtain ⟨v, hv, h1, h2, h3, vs, n, h4, h5⟩ := F.get e
  exact ⟨vs, ⟨n, h4⟩, h5⟩
theorem Sub.self {m : Mp} {x : Str} {b : Bd} (e : m.lookup x = some b) : Sub m ((x, b) :: m) := fun y c h => by
  by_cases hy : y = x
  · subst hy; rw [lk_self] at h; cases h; exact e
  · rw [lk_ne hy] at h; exact h
theorem Sub.trans {m₁ m₂ m₃ : Mp} (x : Sub m₁ m₂) (y : Sub m₂ m₃) : Sub m₁ m₃ := fun a b h => x a b (y a b h)
/-- an owned list turned to another -/
theorem FS.setL {T env he Oc O h h' fz m x a ds} {vs' : List Value} {ds' : List PyData} (F : FS C T env he Oc O h fz m) (e : m.lookup x = some (.L a ds)) (hs : Heap.SameBut a h h') (hl : h'.PlainList a vs'.toArray) (r : Reps O h vs' ds') :
    FS C T env he Oc O h' fz ((x, .L a ds') :: m) :=
  F.setObj hs.extBut e rfl (fun ⟨h0, h1, h2, h3, _⟩ => let ⟨n, e⟩ := hl; ⟨h0, h1, h2, h3, vs', n, e, rep_ext (C := C) hs.extBut h1 r⟩) rfl
theorem comp_run {elt target iter : Expr} {ifs : List Expr} {scope : Scope} {pos : Pos} {xs : List PyData} {tst : PyData → Bool} {f : PyData → PyData} (ok : compOk scope env = true) (sn : Seen scope m mc) (hit : EvI C k env m iter xs)
    (body : CompBody C k env scope mc target ifs elt tst f xs) (hsz : xs.length ≤ sizeLine) (hfs : ∀ x, foldedSetIterable iter env x = pure x)
    (A : Around) (T : List Addr) (he : Heap) (Oc O : List Addr) (s : Shared) (fz : Bool) (use : Option (Value → Sem Unit)) (Q E : Value → Shared → Prop)
    (g : GI C s.heap) (F : FS C T env he Oc O s.heap fz m) (R : Room C k A s.heap)
    (q : ∀ D L' h' tk vs n O', s.heap.get? D = none → s.heap.get? L' = none → L' ≠ D → L' ∉ C.T → (∃ mm, h'.Ns L' mm) → Kp C C.T s.heap h' → GI C h' → h'.get? D = some { cls := .type "list", data := .seq (List.toArray vs) n } → Reps O' h' vs (outs tst f xs) → (∀ a ∈ D :: O, a ∈ O') → L' ∈ O' →
      compPost C.M A E use Q (.ref D) L' (.ok .next) { s with heap := h', toks := tk }) :
    wpAny C.M A (comprehension (.ListComp elt [⟨target, iter, ifs, 0⟩] scope pos) scope env (firstIterPos [⟨target, iter, ifs, 0⟩] pos) (newList []) false (eval iter env) use) Q E s := by
  have ok' := ok
  unfold compOk at ok'
  simp only [Bool.and_eq_true, List.all_eq_true, beq_iff_eq] at ok'
  have hcell : ∀ y ∈ scope.names, y.2 ≠ .cell := fun y hy e => by have := ok'.2 y hy; rw [e] at this; cases this
  have hloc : ∀ y ∈ scope.names, y.2 = .local → scope.names.lookup y.1 = some .local := fun y hy e => by have := ok'.2 y hy; rw [e] at this; simpa using this
  refine wpAny_comprehension_free rfl hfs (clos_eq ok) ok'.1 hloc (hit A T he Oc O s fz _ _ g F R fun I b bS h₂ tk hI it kp g₂ F₂ bears => ?_)
  refine wpAny_newObj_type (wpAny_newFunctionEnv hcell (by intro y hy; simp at hy) (fun h₄ hns hsb => ?_) ok'.1)
  dsimp only at hns hsb ⊢
  have hsz1 : (h₂.push { cls := .type "list", dict := none, data := .seq ([] : List Value).toArray }).objs.size = h₂.objs.size + 1 := Heap.size_push ..
  rw [hsz1] at hns hsb ⊢
  obtain ⟨F4, g4, kp4⟩ := F.comp ok sn g g₂ hI kp (it.addr 0) it.addrS bears (F₂.av I (.head _)).2 hns hsb
  have sub0 : ∀ a ∈ h₂.objs.size :: O, a ∈ (h₂.objs.size + 1) :: h₂.objs.size :: I :: O := fun a ha => by
    rcases List.mem_cons.mp ha with rfl | ha
    · exact List.mem_cons_of_mem _ (.head _)
    · exact List.mem_cons_of_mem _ (List.mem_cons_of_mem _ (List.mem_cons_of_mem _ ha))
  have nD : s.heap.get? h₂.objs.size = none := kp.fresh (size_none _)
  have nL : s.heap.get? (h₂.objs.size + 1) = none := F4.loc.2
  have hnI : ∀ y, (y = kI ∨ y = kS ∨ y = kA) → Pseudo (compEnvC scope (closOf env scope.names []) (h₂.objs.size + 1) env) y := by
    intro y hy
    have hx : scope.names.lookup y = none := hy.elim (fun z => z ▸ sn.own.2.2.2.1) fun hy => hy.elim (fun z => z ▸ sn.own.2.2.2.2.1) fun z => z ▸ sn.own.2.2.2.2.2
    exact ⟨fun z => (by have := relabel_local ok z; rw [hx] at this; cases this), fun z => (by have := (relabel_kind ok (.inl z)).1; rw [hx] at this; cases this), fun z => (by have := (relabel_kind ok (.inr z)).1; rw [hx] at this; cases this)⟩
  have loop : ∀ s₃ : Shared, s₃ = { s with heap := h₄, toks := tk + ([] : List (Str × Value)).length } →
      codeAny C.M A (.compLoop (.ListComp elt [⟨target, iter, ifs, 0⟩] scope pos) 0 (.ref I) (.ref h₂.objs.size) (compEnvC scope (closOf env scope.names []) (h₂.objs.size + 1) env))
        (compPost C.M A E use Q (.ref h₂.objs.size) (h₂.objs.size + 1)) s₃ := by
    rintro s₃ rfl
    refine codeAny_compLoop_own (fun n s' => ∃ i h' tk O' m', s' = { s with heap := h', toks := tk } ∧ i ≤ xs.length ∧ n = xs.length + 1 - i ∧ GI C h' ∧ Kd s.heap h' ∧
      FS C C.T (compEnvC scope (closOf env scope.names []) (h₂.objs.size + 1) env) s.heap O O' h' true m' ∧ Sub m' ((kI, b i) :: (kS, bS) :: (kA, .L h₂.objs.size (outs tst f (xs.take i))) :: mc) ∧
      (∀ a ∈ h₂.objs.size :: O, a ∈ O')) ?_ (xs.length + 1) ⟨0, h₄, _, _, _, rfl, Nat.zero_le _, rfl, g4, kp4.dict, F4, by rw [List.take_zero]; exact fun _ _ z => z, sub0⟩
    rintro n _ ⟨i, h', tk', O', m', rfl, hi, rfl, g', kd', F', hsub, hO'⟩
    have e1 : m'.lookup kI = some (b i) := hsub _ _ lk_self
    have e2 : m'.lookup kS = some bS := hsub _ _ (by rw [lk_ne (by decide)]; exact lk_self)
    have e3 : m'.lookup kA = some (.L h₂.objs.size (outs tst f (xs.take i))) := hsub _ _ (by rw [lk_ne (by decide), lk_ne (by decide)]; exact lk_self)
    have R' : Room C k A h' := R.kd kd'
    rcases Nat.lt_or_eq_of_le hi with hlt | rfl
    · obtain ⟨d, hd⟩ : ∃ d, xs[i]? = some d := ⟨_, List.getElem?_eq_getElem hlt⟩
      obtain ⟨binds, hasg, hbm, hbn, htes, hev⟩ := body (h₂.objs.size + 1) d (List.mem_of_getElem? hd)
      refine it.item A C.T s.heap O' _ i d _ _ hd R.handled (F'.getA e1 (it.addr i)) (F'.get e2) fun v h₁ tk₁ hs₁ rv bI' => ?_
      have F₁ := F'.setObj hs₁ e1 (it.addr i) (fun _ => bI') (it.addr (i + 1))
      have g₁ := F'.giObj g' hs₁ e1 (it.addr i)
      have kd₁ := kd'.trans (F'.kdObj hs₁ e1 (it.addr i))
      refine it.tgt A C.T s.heap O' _ (i + 1) target v _ _ bI' ?_
      refine hasg _ A C.T s.heap O O' _ v _ _ g₁ F₁ (R.kd kd₁) rv fun h₅ tk₅ kd₅ g₅ F₅ => ?_
      have kd₅ := kd₁.trans kd₅
      have hsub2 : Sub (binds ++ (kI, b (i + 1)) :: m') (binds ++ mc) := fun y c hy => by
        rw [lookup_append] at hy ⊢
        cases hb : binds.lookup y with
        | some c' => rw [hb] at hy; exact hy
        | none =>
          rw [hb] at hy
          have hy : mc.lookup y = some c := hy
          have n1 : y ≠ kI := fun z => by rw [z, sn.own.1] at hy; cases hy
          have n2 : y ≠ kS := fun z => by rw [z, sn.own.2.1] at hy; cases hy
          have n3 : y ≠ kA := fun z => by rw [z, sn.own.2.2.1] at hy; cases hy
          show List.lookup y ((kI, b (i + 1)) :: m') = some c
          rw [lk_ne n1]
          exact hsub y c (by rw [lk_ne n1, lk_ne n2, lk_ne n3]; exact hy)
      have hkeep : ∀ y, (y = kI ∨ y = kS ∨ y = kA) → (binds ++ (kI, b (i + 1)) :: m').lookup y = List.lookup y ((kI, b (i + 1)) :: m') := fun y hy => by
        rw [lookup_append, hbn y hy]; rfl
      refine (htes.sub hsub2).run A C.T s.heap O O' _ true _ _ g₅ F₅ (R.kd kd₅) fun h₆ tk₆ kp₆ g₆ => ?_
      have F₆ := F₅.kp kp₆
      have kd₆ := kd₅.trans kp₆.dict
      have hnext : ∀ (c : Bd), Sub ((kA, c) :: (binds ++ (kI, b (i + 1)) :: m')) ((kI, b (i + 1)) :: (kS, bS) :: (kA, c) :: mc) := fun c y e hy => by
        by_cases n1 : y = kI
        · subst n1; rw [lk_self] at hy; rw [lk_ne (by decide), hkeep _ (.inl rfl), lk_self]; exact hy
        · rw [lk_ne n1] at hy
          by_cases n2 : y = kS
          · subst n2; rw [lk_self] at hy; rw [lk_ne (by decide), hkeep _ (.inr (.inl rfl)), lk_ne n1, e2]; exact hy
          · rw [lk_ne n2] at hy
            by_cases n3 : y = kA
            · subst n3; rw [lk_self] at hy; rw [lk_self]; exact hy
            · rw [lk_ne n3] at hy
              rw [lk_ne n3, lookup_append]
              have : binds.lookup y = none := by
                cases hb : binds.lookup y with
                | none => rfl
                | some z => have := hbm y (by rw [hb]; exact nofun); rw [this] at hy; cases hy
              rw [this]
              show List.lookup y ((kI, b (i + 1)) :: m') = some e
              rw [lk_ne n1]
              exact hsub y e (by rw [lk_ne n1, lk_ne n2, lk_ne n3]; exact hy)
      have e3' : (binds ++ (kI, b (i + 1)) :: m').lookup kA = some (.L h₂.objs.size (outs tst f (xs.take i))) := by
        rw [hkeep _ (.inr (.inr rfl)), lk_ne (by decide)]; exact e3
      have hlen : (outs tst f (xs.take i)).length ≤ sizeLine := by
        have h1 : (outs tst f (xs.take i)).length ≤ (xs.take i).length := List.length_filterMap_le _ _
        have h2 : (xs.take i).length ≤ xs.length := by rw [List.length_take]; exact Nat.min_le_right _ _
        exact Nat.le_trans h1 (Nat.le_trans h2 hsz)
      cases ht : tst d with
      | false =>
        simp only [Bool.false_eq_true, if_false]
        refine ⟨xs.length + 1 - (i + 1), by omega, i + 1, h₆, tk₆, O', binds ++ (kI, b (i + 1)) :: m', rfl, hlt, rfl, g₆, kd₆, F₆, ?_, hO'⟩
        rw [outs_snoc tst f hd, ht]
        simp only [Bool.false_eq_true, if_false, List.append_nil]
        exact (Sub.self e3').trans (hnext _)
      | true =>
        simp only [if_true]
        refine ((hev ht).sub hsub2) A C.T s.heap O O' _ true _ _ g₆ F₆ (R.kd kd₆) fun w h₇ tk₇ kp₇ g₇ rw₇ => ?_
        have F₇ := F₆.kp kp₇
        obtain ⟨vs, hpl, hr⟩ := F₇.isList e3'
        have hlv := hr.length
        refine wpAny_list_append_plain (x := w) hpl (fun h₈ hpl₈ hs₈ => ?_) (by simp [hlv]; exact hlen)
        have hpl8' : h₈.PlainList h₂.objs.size (vs ++ [w]).toArray := by simpa using hpl₈
        have F₈ := F₇.setL e3' hs₈ hpl8' (Reps.append (.cons rw₇ .nil) hr)
        refine ⟨xs.length + 1 - (i + 1), by omega, i + 1, h₈, tk₇, O', _, rfl, hlt, rfl, F₇.giObj g₇ hs₈.extBut e3' rfl, (kd₆.trans kp₇.dict).trans (F₇.kdObj hs₈.extBut e3' rfl), F₈, ?_, hO'⟩
        rw [outs_snoc tst f hd, ht]
        exact hnext _
    · refine it.done A C.T s.heap O' _ _ _ R.handled (F'.getA e1 (it.addr _)) (F'.get e2) fun h₁ tk₁ hs₁ => ?_
      obtain ⟨O₁, hO₁, F₁⟩ := F'.drop hs₁ e1 (it.addr _) (fun z => g.freshT hI z) (hnI _ (.inl rfl))
      have g₁ := F'.giObj g' hs₁ e1 (it.addr _)
      have e3' : List.lookup kA ((kI, Bd.v .none) :: m') = some (.L h₂.objs.size (outs tst f (xs.take xs.length))) := by rw [lk_ne (by decide)]; exact e3
      obtain ⟨vs, ⟨n, ho⟩, hr⟩ := F₁.isList e3'
      rw [List.take_length] at hr
      obtain ⟨mm, hn, _⟩ := F₁.bear
      refine q _ _ h₁ tk₁ vs n O₁ nD nL (Nat.succ_ne_self _) (fun z => g.freshT nL z) ⟨mm, hn⟩ F₁.ext g₁ ho hr (fun a ha => ?_) F₁.loc.1
      rcases List.mem_cons.mp ha with rfl | ha
      · exact (F₁.getA e3' rfl).2.1
      · exact (F₁.sup a ha).1
  have bI4 := F4.getA (x := kI) lk_self (it.addr 0)
  exact codeAny_compStart_list (loop _ rfl) (it.self _ C.T s.heap _ _ 0 _ _ bI4 (loop _ rfl))
theorem EvL.comp {elt target iter : Expr} {ifs : List Expr} {scope : Scope} {pos : Pos} {xs : List PyData} {tst : PyData → Bool} {f : PyData → PyData} (ok : compOk scope env = true) (sn : Seen scope m mc) (hit : EvI C k env m iter xs)
    (body : CompBody C k env scope mc target ifs elt tst f xs) (hsz : xs.length ≤ sizeLine) (hfs : ∀ x, foldedSetIterable iter env x = pure x := by intro _; rfl) :
    EvL C k env m (.ListComp elt [⟨target, iter, ifs, 0⟩] scope pos) (outs tst f xs) := by
  intro A T he Oc O s fz Q E g F R p
  rw [eval_ListComp]
  refine comp_run ok sn hit body hsz hfs A T he Oc O s fz none Q E g F R fun D L' h' tk vs n O' nD nL nLD nLT ⟨mm, hn⟩ kp g' ho hr hO hL => ?_
  refine ⟨mm, hn, fun h'' hs => ?_⟩
  have kp2 : Kp C C.T s.heap h'' := by
    refine ⟨fun b o e => ?_, fun b o hb e => ?_, fun b o es ep e d => ?_⟩
    · obtain ⟨o', e'⟩ := kp.live b o e
      exact ⟨o', (hs.2 b fun z => by rw [z, nL] at e; cases e).trans e'⟩
    · have hne : b ≠ L' := fun z => by rw [z, nL] at e; cases e
      rcases kp.keep b o hb e with e1 | ⟨n1, d1, sl, e1⟩
      · exact .inl ((hs.2 b hne).trans e1)
      · exact .inr ⟨n1, d1, sl, (hs.2 b hne).trans e1⟩
    · have hne : b ≠ L' := fun z => by rw [z, nL] at e; cases e
      obtain ⟨o', es', ep', e1, d1⟩ := kp.dict b o es ep e d
      exact ⟨o', es', ep', (hs.2 b hne).trans e1, d1⟩
  refine p D h'' tk vs n nD kp2 (g'.sameBut hs (g.fresh nL) nLT fun o e ⟨vs, x, t, d, _⟩ => ?_) ((hs.2 D (Ne.symm nLD)).trans ho) ?_
  · obtain ⟨o2, es, ep, e2, d2, _⟩ := hn; rw [e2] at e; cases e; rw [d2] at d; cases d
  · exact hr.moved fun a o xs n ha e _ => ⟨(hs.2 a fun z => ha (z ▸ hL)).trans e, fun z => ha (hO a z)⟩
end

inductive Fl where
  | next
  | brk
  | cont
  | ret (d : PyData)
noncomputable def FlowB (O : List Addr) (h : Heap) : Flow → Fl → Prop
  | .next, .next => True
  | .brk, .brk => True
  | .cont, .cont => True
  | .ret v, .ret d => Rep O h v d
  | _, _ => False
noncomputable abbrev PostF (C : Cfg) (T : List Addr) (env : Env) (fz : Bool) (he : Heap) (Oc : List Addr) (s : Shared) (Q : Fl → Mp → Prop) (Qh : Flow → Shared → Prop) : Prop :=
  ∀ f fd m' O' h' tk, Q fd m' → GI C h' → Kd s.heap h' → FS C T env he Oc O' h' fz m' → FlowB O' h' f fd → Qh f { s with heap := h', toks := tk }
noncomputable def DoS (C : Cfg) (T : List Addr) (k : Nat) (env : Env) (fz : Bool) (st : Stmt) (m : Mp) (Q : Fl → Mp → Prop) : Prop :=
  ∀ (A : Around) (he : Heap) (Oc O : List Addr) (s : Shared) (Qh : Flow → Shared → Prop) (E : Value → Shared → Prop), GI C s.heap → FS C T env he Oc O s.heap fz m → Room C k A s.heap → PostF C T env fz he Oc s Q Qh → wpAny C.M A (exec st env) Qh E s
noncomputable def Do (C : Cfg) (T : List Addr) (k : Nat) (env : Env) (fz : Bool) (ss : List Stmt) (m : Mp) (Q : Fl → Mp → Prop) : Prop :=
  ∀ (A : Around) (he : Heap) (Oc O : List Addr) (s : Shared) (Qh : Flow → Shared → Prop) (E : Value → Shared → Prop), GI C s.heap → FS C T env he Oc O s.heap fz m → Room C k A s.heap → PostF C T env fz he Oc s Q Qh → wpAny C.M A (execs ss env) Qh E s
theorem PostF.later {C T env fz he Oc} {s : Shared} {Q Qh} {h₁ : Heap} {tk : Nat} (p : PostF C T env fz he Oc s Q Qh) (k : Kd s.heap h₁) : PostF C T env fz he Oc { s with heap := h₁, toks := tk } Q Qh :=
  fun f fd m' O' h' tk q g kd F b => p f fd m' O' h' tk q g (k.trans kd) F b
section
variable {C : Cfg} {T : List Addr} {k : Nat} {env : Env} {fz : Bool} {m m' : Mp} {Q : Fl → Mp → Prop}
theorem Do.nil (h : Q .next m) : Do C T k env fz [] m Q := fun A he Oc O s Qh E g F R p => wpAny_execs_nil (p .next .next m O s.heap s.toks h g (.refl _) F trivial)
theorem Do.cons {st : Stmt} {rest : List Stmt} (h : DoS C T k env fz st m fun f m' => match f with | .next => Do C T k env fz rest m' Q | f => Q f m') : Do C T k env fz (st :: rest) m Q := by
  intro A he Oc O s Qh E g F R p
  refine wpAny_execs_cons (h A he Oc O s _ E g F R fun f fd m' O' h' tk q g' kd F' b => ?_)
  cases f <;> cases fd <;> first | exact b.elim | exact q A he Oc O' _ Qh E g' F' (R.kd kd) (p.later kd) | exact p _ _ m' O' h' tk q g' kd F' b
theorem Do.sub {ss : List Stmt} (h : Do C T k env fz ss m Q) (hs : Sub m' m) : Do C T k env fz ss m' Q := fun A he Oc O s Qh E g F R p => h A he Oc O s Qh E g (F.sub hs) R p
theorem DoS.mono {st : Stmt} {Q' : Fl → Mp → Prop} (h : DoS C T k env fz st m Q) (hq : ∀ f m, Q f m → Q' f m) : DoS C T k env fz st m Q' := fun A he Oc O s Qh E g F R p => h A he Oc O s Qh E g F R fun f fd m' O' h' tk q => p f fd m' O' h' tk (hq _ _ q)
theorem Do.mono {ss : List Stmt} {Q' : Fl → Mp → Prop} (h : Do C T k env fz ss m Q) (hq : ∀ f m, Q f m → Q' f m) : Do C T k env fz ss m Q' := fun A he Oc O s Qh E g F R p => h A he Oc O s Qh E g F R fun f fd m' O' h' tk q => p f fd m' O' h' tk (hq _ _ q)

theorem DoS.assign {x : Str} {p' pos : Pos} {value : Expr} {d : PyData} (hx : CanBind env fz x) (hv : Ev C k env m value d) (q : Q .next ((x, .d d) :: m)) (hs : swapsWith value (some (.Name x p')) pos.line env = pure false := by rfl) :
    DoS C T k env fz (.Assign [.Name x p'] value pos) m Q := by
  intro A he Oc O s Qh E g F R p
  refine wpAny_Assign_Name (hv A T he Oc O s fz _ _ g F R fun v h₁ tk k₁ g₁ r₁ => ?_) hs
  exact (F.kp k₁).bind (s := { s with heap := h₁, toks := tk }) g₁ hx.1 hx.2 (b := .d d) r₁ (.none rfl) fun h' tk' kp g' F' => p .next .next _ O h' tk' q g' (Kd.trans k₁.dict kp.dict) F' trivial
theorem DoS.assignL {x : Str} {p' pos : Pos} {value : Expr} {ds : List PyData} (hx : CanBind env fz x) (hv : EvL C k env m value ds) (q : ∀ a, Q .next ((x, .L a ds) :: m)) (hs : swapsWith value (some (.Name x p')) pos.line env = pure false := by rfl) :
    DoS C T k env fz (.Assign [.Name x p'] value pos) m Q := by
  intro A he Oc O s Qh E g F R p
  refine wpAny_Assign_Name (hv A T he Oc O s fz _ _ g F R fun a h₁ tk vs n ha k₁ g₁ ho hr => ?_) hs
  have F1 := F.alloc g ha k₁ ho
  refine F1.bind (s := { s with heap := h₁, toks := tk }) g₁ hx.1 hx.2 (b := .L a ds) ⟨rfl, .head _, g.freshT ha, .inl (F.fresh_he ha), vs, n, ho, hr⟩ (F.apartNew ha rfl) fun h' tk' kp g' F' => ?_
  exact p .next .next _ _ h' tk' (q a) g' (Kd.trans k₁.dict kp.dict) F' trivial
/-- a list comprehension to a local name -/
theorem DoS.assignComp {x : Str} {p' pos : Pos} {mc : Mp} {elt target iter : Expr} {ifs : List Expr} {scope : Scope} {cpos : Pos} {xs : List PyData} {tst : PyData → Bool} {f : PyData → PyData} (ok : compOk scope env = true) (sn : Seen scope m mc) (hit : EvI C k env m iter xs)
    (body : CompBody C k env scope mc target ifs elt tst f xs) (hsz : xs.length ≤ sizeLine) (hx : env.kindOf x = some .local) (q : Q .next ((x, .d (.list (outs tst f xs))) :: m))
    (hs : swapsWith (.ListComp elt [⟨target, iter, ifs, 0⟩] scope cpos) (some (.Name x p')) pos.line env = pure true := by rfl) (hfs : ∀ x, foldedSetIterable iter env x = pure x := by intro _; rfl) :
    DoS C T k env fz (.Assign [.Name x p'] (.ListComp elt [⟨target, iter, ifs, 0⟩] scope cpos) pos) m Q := by
  intro A he Oc O s Qh E g F R p
  rw [exec_Assign_Name_used _ _ _ _ hs]
  refine wpAny_bind (wpAny_standAt (wpAny_bind ?_))
  show wpAny C.M A (do let _ ← comprehension (.ListComp elt [⟨target, iter, ifs, 0⟩] scope cpos) scope env (firstIterPos [⟨target, iter, ifs, 0⟩] cpos) (newList []) false (eval iter env) (some (PySem.assign (.Name x p') env))) _ _ s
  refine wpAny_bind (comp_run ok sn hit body hsz hfs A T he Oc O s fz (some (PySem.assign (.Name x p') env)) _ E g F R fun D L' h' tk vs n O' nD nL nLD nLT ⟨mm, hn⟩ kp g' ho hr hO hL => ?_)
  show wpAny C.M A (PySem.assign (.Name x p') env (.ref D)) _ _ _
  have F1 := F.kp kp
  have hr1 : Rep O h' (.ref D) (.list (outs tst f xs)) := .list vs (fun z => by obtain ⟨_, o, e⟩ := F.av D z; rw [nD] at e; cases e) ho (hr.sub fun a z => .inl (hO a (List.mem_cons_of_mem _ z)))
  refine wpAny_assign_Name (F1.bind (s := { s with heap := h', toks := tk }) g' (.inl hx) (fun z => by rw [hx] at z; cases z) (b := .d (.list (outs tst f xs))) hr1 (.none rfl) fun h₂ tk₂ kp2 g2 F2 => ?_)
  have hLO : L' ∉ O := fun z => by obtain ⟨_, o, e⟩ := F.av L' z; rw [nL] at e; cases e
  have hn2 := kp2.ns hLO hn
  refine ⟨mm, hn2, fun h₃ hs₃ => ?_⟩
  obtain ⟨o2, es, ep, e2, d2, _⟩ := id hn2
  have F3 := F2.away hs₃.extBut hLO (F.fresh_he nL) ⟨o2, es, ep, e2, d2⟩
  refine wpAny_pure (wpAny_pure (p .next .next _ O h₃ _ q (g2.sameBut hs₃ (g.fresh nL) nLT fun o e ⟨vs, x, t, d, _⟩ => by rw [e2] at e; cases e; rw [d2] at d; cases d) ?_ F3 trivial))
  intro b o es ep e d
  obtain ⟨o', es', ep', e', d'⟩ := Kd.trans kp.dict kp2.dict b o es ep e d
  exact ⟨o', es', ep', (hs₃.2 b fun z => by rw [z, nL] at e; cases e).trans e', d'⟩
theorem DoS.assign2 {x y : Str} {p1 p2 p3 pos : Pos} {kk : Nat} {value : Expr} {d1 d2 : PyData} (hx : CanBind env fz x) (hy : CanBind env fz y) (hv : Ev C k env m value (.tuple [d1, d2])) (q : Q .next ((y, .d d2) :: (x, .d d1) :: m))
    (hs : swapsWithSole [.Tuple [.Name x p1, .Name y p2] kk p3] value pos.line env = pure false := by rfl) (hw : swappedStores [.Tuple [.Name x p1, .Name y p2] kk p3] value env = pure none := by rfl) :
    DoS C T k env fz (.Assign [.Tuple [.Name x p1, .Name y p2] kk p3] value pos) m Q := by
  intro A he Oc O s Qh E g F R p
  refine Assign_Tuple (hv A T he Oc O s fz _ _ g F R fun v h₁ tk k₁ g₁ r₁ => ?_) hs hw
  exact Asg.two hx hy A T he Oc O _ v _ _ g₁ (F.kp k₁) (R.kp k₁) r₁ fun h' tk' kd g' F' => p .next .next _ O h' tk' q g' (Kd.trans k₁.dict kd) F' trivial
theorem DoS.assign2s {x y : Str} {p1 p2 p3 pos : Pos} {kk : Nat} {value : Expr} {d1 d2 : PyData} (hx : CanBind env fz x) (hy : CanBind env fz y) (hv : Ev C k env m value (.tuple [d1, d2])) (q : Q .next ((x, .d d1) :: (y, .d d2) :: m))
    (hs : swapsWithSole [.Tuple [.Name x p1, .Name y p2] kk p3] value pos.line env = pure false := by rfl) (hw : swappedStores [.Tuple [.Name x p1, .Name y p2] kk p3] value env = pure (some [x, y]) := by rfl) :
    DoS C T k env fz (.Assign [.Tuple [.Name x p1, .Name y p2] kk p3] value pos) m Q := by
  intro A he Oc O s Qh E g F R p
  refine Assign_Tuple_swapped (hv A T he Oc O s fz _ _ g F R fun v h₁ tk k₁ g₁ r₁ => ?_) hs hw
  refine r₁.tup_ fun a n vs hn ho hr => ?_
  revert ho
  refine hr.two_ fun v1 v2 r1 r2 ho => ?_
  · · · refine unpackItems_tuple (items := [v1, v2].toArray) R.handled ⟨_, ho, rfl, _, rfl⟩ fun h' hs => ?_
        have keep : ∀ b o, h₁.get? b = some o → h'.get? b = some o := fun b o e => hs b o (get_ne e (size_none h₁)) e
        have kp : Kp C C.T h₁ h' := .of_keeps keep
        have F1 := (F.kp k₁).kp kp
        have g1 : GI C h' := g₁.keepAll keep
        show wpAny C.M A (assignInOrder [bindName env y, bindName env x] [v2, v1]) _ E _
        refine wpAny_bind (wpAny_holding (wpAny_bindName (F1.bind (s := { s with heap := h', toks := tk }) g1 hy.1 hy.2 (b := .d d2) (kp.rep F.tabs r2) (.none rfl) fun h₂ tk₂ kp2 g2 F2 => ?_)))
        refine wpAny_bind (wpAny_holding (wpAny_bindName (F2.bind (s := { s with heap := h₂, toks := tk₂ }) g2 hx.1 hx.2 (b := .d d1) (kp2.rep (fun _ q => q) (kp.rep F.tabs r1)) (.none rfl) fun h₃ tk₃ kp3 g3 F3 => ?_)))
        exact wpAny_pure (p .next .next _ O h₃ tk₃ q g3 (Kd.trans (Kd.trans k₁.dict kp.dict) (Kd.trans kp2.dict kp3.dict)) F3 trivial)
theorem DoS.aug {x : Str} {p' pos : Pos} {op : Operator} {value : Expr} {d0 d1 d : PyData} (hx : CanBind env fz x) (h0 : m.lookup x = some (.d d0)) (hv : Ev C k env m value d1) (ho : Op2 C (inplaceOp op) d0 d1 d) (q : Q .next ((x, .d d) :: m)) :
    DoS C T k env fz (.AugAssign (.Name x p') op value pos) m Q := by
  intro A he Oc O s Qh E g F R p
  have step : ∀ (Q' : Value → Shared → Prop), (∀ v tk, Rep O s.heap v d0 → Q' v { s with toks := tk }) → wpAny C.M A (loadName env x) Q' E s := fun Q' hq => by
    obtain ⟨mm, n, hm⟩ := F.bear
    obtain ⟨q1, q2, _⟩ := hm x _ h0
    rcases hx.1 with hl | hl
    · obtain ⟨v, e, r⟩ := q1 hl
      exact wpAny_loadName_local F.kind hl n e (hq _ s.toks r)
    · obtain ⟨c, v, hcc, hI, r⟩ := q2 (.inl hl)
      exact wpAny_loadName_cell F.kind hl hcc hI (hq _ s.toks r)
  refine wpAny_AugAssign_Name (step _ fun v tk r => ?_)
  refine hv A T he Oc O _ fz _ _ g F R fun w h₁ tk₁ k₁ g₁ r₁ => ?_
  have F1 := F.kp k₁
  refine ho A O _ v w _ _ g₁ F1.avs ((R.kp k₁).le (Nat.zero_le _)) (k₁.rep F.tabs r) r₁ fun u h₂ tk₂ k₂ g₂ r₂ => ?_
  exact (F1.kp k₂).bind (s := { s with heap := h₂, toks := tk₂ }) g₂ hx.1 hx.2 (b := .d d) r₂ (.none rfl) fun h' tk' kp g' F' => p .next .next _ O h' tk' q g' (Kd.trans (Kd.trans k₁.dict k₂.dict) kp.dict) F' trivial
theorem DoS.ite {test : Expr} {body orelse : List Stmt} {pos : Pos} {b : Bool} (ht : Te C k env m test b) (h1 : b = true → Do C T k env fz body m Q) (h2 : b = false → Do C T k env fz orelse m Q) : DoS C T k env fz (.If test body orelse pos) m Q := by
  intro A he Oc O s Qh E g F R p
  refine wpAny_If (ht A T he Oc O s fz _ _ g F R fun h₁ tk k₁ g₁ => ?_)
  cases b with
  | true => exact h1 rfl A he Oc O _ _ _ g₁ (F.kp k₁) (R.kp k₁) (p.later k₁.dict)
  | false => exact h2 rfl A he Oc O _ _ _ g₁ (F.kp k₁) (R.kp k₁) (p.later k₁.dict)
theorem DoS.ret {e : Expr} {pos : Pos} {d : PyData} (hv : Ev C k env m e d) (q : Q (.ret d) m) : DoS C T k env fz (.Return (some e) pos) m Q := by
  intro A he Oc O s Qh E g F R p
  exact wpAny_Return_some (hv A T he Oc O s fz _ _ g F R fun v h₁ tk k₁ g₁ r₁ => p (.ret v) (.ret d) m O h₁ tk q g₁ k₁.dict (F.kp k₁) r₁)
theorem DoS.ret0 {pos : Pos} (q : Q (.ret .none) m) : DoS C T k env fz (.Return none pos) m Q := by
  intro A he Oc O s Qh E g F R p
  exact wpAny_Return_none (p (.ret .none) (.ret .none) m O s.heap s.toks q g (.refl _) F .nn)
theorem DoS.assert {test : Expr} {msg : Option Expr} {pos : Pos} (ht : Te C k env m test true) (q : Q .next m) : DoS C T k env fz (.Assert test msg pos) m Q := by
  intro A he Oc O s Qh E g F R p
  exact wpAny_Assert_holds (ht A T he Oc O s fz _ _ g F R fun h₁ tk k₁ g₁ => ⟨rfl, p .next .next m O h₁ tk q g₁ k₁.dict (F.kp k₁) trivial⟩)
theorem DoS.while {test : Expr} {body : List Stmt} {pos : Pos} (inv : Nat → Mp → Prop)
    (turn : ∀ n m, inv n m → ∃ b, Te C k env m test b ∧ (b = true → Do C T k env fz body m fun f m' => match f with | .next => ∃ n', n' < n ∧ inv n' m' | .cont => ∃ n', n' < n ∧ inv n' m' | .brk => Q .next m' | .ret d => Q (.ret d) m') ∧ (b = false → Q .next m))
    (n : Nat) (h : inv n m) : DoS C T k env fz (.While test body [] pos) m Q := by
  intro A he Oc O s Qh E g F R p
  refine wpAny_While (codeAny_whileLoop (fun n s' => ∃ h' tk O' m', s' = { s with heap := h', toks := tk } ∧ inv n m' ∧ GI C h' ∧ Kd s.heap h' ∧ FS C T env he Oc O' h' fz m') ?_ n ⟨s.heap, s.toks, O, m, rfl, h, g, .refl _, F⟩)
  rintro n _ ⟨h', tk, O', m', rfl, hi, g', kd, F'⟩
  obtain ⟨b, ht, hb, hn⟩ := turn n m' hi
  refine ht A T he Oc O' _ fz _ _ g' F' (R.kd kd) fun h₁ tk₁ k₁ g₁ => ?_
  have kd1 := kd.trans k₁.dict
  cases b with
  | false => exact wpAny_execs_nil (p .next .next m' O' h₁ tk₁ (hn rfl) g₁ kd1 (F'.kp k₁) trivial)
  | true =>
    refine hb rfl A he Oc O' _ _ _ g₁ (F'.kp k₁) (R.kd kd1) fun f fd m₂ O₂ h₂ tk₂ q g₂ kd₂ F₂ fb => ?_
    have kd2 := kd1.trans kd₂
    cases f <;> cases fd <;> first
      | exact fb.elim
      | (obtain ⟨n', h1, h2⟩ := q; exact ⟨n', h1, h₂, tk₂, O₂, m₂, rfl, h2, g₂, kd2, F₂⟩)
      | exact p _ _ m₂ O₂ h₂ tk₂ q g₂ kd2 F₂ fb
      | exact p .next .next m₂ O₂ h₂ tk₂ q g₂ kd2 F₂ trivial
theorem DoS.for {x : Str} {p' : Pos} {iter : Expr} {body : List Stmt} {pos : Pos} {xs : List PyData} (inv : Nat → Mp) (u v : Str) (huv : u ≠ v) (hu : Pseudo env u) (hv : Pseudo env v)
    (hx : CanBind env fz x) (hit : EvI C k env m iter xs) (h0 : Sub m (inv 0)) (hin : ∀ i, (inv i).lookup u = none ∧ (inv i).lookup v = none) (hmu : m.lookup u = none ∧ m.lookup v = none)
    (turn : ∀ i d, xs[i]? = some d → ∀ bu bv : Bd, Do C T k env fz body ((x, .d d) :: (u, bu) :: (v, bv) :: inv i) fun f m' => match f with
      | .next => Sub m' ((u, bu) :: (v, bv) :: inv (i + 1)) | .cont => Sub m' ((u, bu) :: (v, bv) :: inv (i + 1)) | .brk => Q .next m' | .ret d => Q (.ret d) m')
    (fin : Q .next (inv xs.length)) (hfs : ∀ x, foldedSetIterable iter env x = pure x := by intro _; rfl) : DoS C T k env fz (.For (.Name x p') iter body [] pos) m Q := by
  intro A he Oc O s Qh E g F R p
  refine wpAny_For (hit A T he Oc O s fz _ _ g F R fun I b bS h₂ tk₂ hI it kp g₂ F₂ bears => ?_) hfs
  have hIT : I ∉ T := fun z => by
    obtain ⟨o, e⟩ := (F.sup _ (F.tO _ z)).2
    obtain ⟨o', e'⟩ := F.ext.live _ _ e
    rw [hI] at e'; cases e'
  obtain ⟨b1, w, b2⟩ := bears T he (F.fresh_he hI)
  have hbS := it.addrS
  have F3 := F₂.put (v := w) hv b2 (.none hbS)
  have F4 := F3.put (v := .ref I) hu b1 (fun y by' a hy e1 e2 e3 => by
    rw [it.addr 0] at e3; cases e3
    by_cases h5 : y = v
    · subst h5; rw [lk_self] at e1; cases e1; rw [hbS] at e2; cases e2
    · rw [lk_ne h5] at e1
      exact F.apartNew (x := u) (b := b 0) hI (it.addr 0) y by' I hy e1 e2 (it.addr 0))
  refine codeAny_forLoop (fun n s' => ∃ i h' tk O' m', s' = { s with heap := h', toks := tk } ∧ i ≤ xs.length ∧ n = xs.length + 1 - i ∧ GI C h' ∧ Kd s.heap h' ∧ FS C T env he Oc O' h' fz m' ∧
      Sub m' ((u, b i) :: (v, bS) :: inv i)) ?_ (xs.length + 1) ⟨0, h₂, tk₂, _, _, rfl, Nat.zero_le _, rfl, g₂, kp.dict, F4, fun y c hy => ?_⟩
  · rintro n _ ⟨i, h', tk', O', m', rfl, hi, rfl, g', kd', F', hsub⟩
    have e1 : m'.lookup u = some (b i) := hsub _ _ lk_self
    have e2 : m'.lookup v = some bS := hsub _ _ (by rw [lk_ne (Ne.symm huv)]; exact lk_self)
    rcases Nat.lt_or_eq_of_le hi with hlt | rfl
    · obtain ⟨d, hd⟩ : ∃ d, xs[i]? = some d := ⟨_, List.getElem?_eq_getElem hlt⟩
      refine it.item A T he O' _ i d _ _ hd R.handled (F'.getA e1 (it.addr i)) (F'.get e2) fun w h₁ tk₁ hs₁ rv bI' => ?_
      have F₁ := F'.setObj hs₁ e1 (it.addr i) (fun _ => bI') (it.addr (i + 1))
      have g₁ := F'.giObj g' hs₁ e1 (it.addr i)
      have kd₁ := kd'.trans (F'.kdObj hs₁ e1 (it.addr i))
      have F₁' : FS C T env he Oc O' h₁ fz ((u, b (i + 1)) :: (v, bS) :: inv i) := F₁.sub fun y c hy => by
        by_cases h5 : y = u
        · subst h5; rw [lk_self] at hy ⊢; exact hy
        · rw [lk_ne h5] at hy ⊢
          exact hsub y c (by rw [lk_ne h5]; exact hy)
      refine Asg.name hx A T he Oc O' _ w _ _ g₁ F₁' (R.kd kd₁) rv fun h₃ tk₃ kd₃ g₃ F₃ => ?_
      have kd3 := kd₁.trans kd₃
      refine turn i d hd _ _ A he Oc O' _ _ _ g₃ F₃ (R.kd kd3) fun f fd m₂ O₂ h₄ tk₄ q g₄ kd₄ F₄ fb => ?_
      have kd4 := kd3.trans kd₄
      cases f <;> cases fd <;> first
        | exact fb.elim
        | exact ⟨xs.length + 1 - (i + 1), by omega, i + 1, h₄, tk₄, O₂, m₂, rfl, hlt, rfl, g₄, kd4, F₄, q⟩
        | exact p _ _ m₂ O₂ h₄ tk₄ q g₄ kd4 F₄ fb
        | exact p .next .next m₂ O₂ h₄ tk₄ q g₄ kd4 F₄ trivial
    · refine it.done A T he O' _ _ _ R.handled (F'.getA e1 (it.addr _)) (F'.get e2) fun h₁ tk₁ hs₁ => ?_
      have g₁ := F'.giObj g' hs₁ e1 (it.addr _)
      have kd₁ := kd'.trans (F'.kdObj hs₁ e1 (it.addr _))
      obtain ⟨O₁, _, F₁⟩ := F'.drop hs₁ e1 (it.addr _) hIT hu
      refine wpAny_execs_nil (p .next .next _ O₁ h₁ tk₁ fin g₁ kd₁ (F₁.sub fun y c hy => ?_) trivial)
      have n1 : y ≠ u := fun z => by rw [z, (hin _).1] at hy; cases hy
      have n2 : y ≠ v := fun z => by rw [z, (hin _).2] at hy; cases hy
      rw [lk_ne n1]
      exact hsub y c (by rw [lk_ne n1, lk_ne n2]; exact hy)
  · by_cases h5 : y = u
    · subst h5; rw [lk_self] at hy ⊢; exact hy
    · rw [lk_ne h5] at hy ⊢
      by_cases h6 : y = v
      · subst h6; rw [lk_self] at hy ⊢; exact hy
      · rw [lk_ne h6] at hy ⊢; exact h0 y c hy
/-- a list owned no more -/
theorem Do.freeze {ss : List Stmt} {x : Str} {a : Addr} {ds : List PyData} (e : m.lookup x = some (.L a ds)) (h : Do C C.T k env fz ss ((x, .d (.list ds)) :: m) Q) : Do C C.T k env fz ss m Q := by
  intro A he Oc O s Qh E g F R p
  obtain ⟨v, _, _, hT, _⟩ := F.get e
  obtain ⟨O', F'⟩ := F.freeze e hT
  exact h A he Oc O' s Qh E g F' R p
end

section
variable {C : Cfg} {T : List Addr} {k : Nat} {env : Env} {fz : Bool} {m m' : Mp} {Q : Fl → Mp → Prop}
theorem meth_append : Meth "append" "list" "list.append" := ⟨by first | exact PySem.F.plainAttrs_list | exact plainAttrs_list, slot_list_append, by first | exact PySem.F.type_list_append | exact type_list_append⟩
theorem meth_reverse : Meth "reverse" "list" "list.reverse" := ⟨by first | exact PySem.F.plainAttrs_list | exact plainAttrs_list, PySem.F.slot_list_reverse, PySem.F.type_list_reverse⟩
theorem ownL {T env he Oc O h fz m x a ds} (F : FS C T env he Oc O h fz m) (e : m.lookup x = some (.L a ds)) : ∃ vs n, h.get? a = some { cls := .type "list", data := .seq (List.toArray vs) n } ∧ Reps O h vs ds ∧ a ∉ C.T ∧ (he.get? a = none ∨ a ∈ T) := by
  obtain ⟨v, hv, h1, h2, h3, vs, n, h4, h5⟩ := F.get e
  exact ⟨vs, n, h4, h5, h2, h3⟩
theorem DoS.append {x : Str} {px apos pos pos' : Pos} {e : Expr} {a : Addr} {ds : List PyData} {d : PyData} (hx : m.lookup x = some (.L a ds)) (hl : Loc env x) (he' : Ev C k env m e d) (hns : NoStar [e]) (hsz : ds.length ≤ sizeLine) (q : Q .next ((x, .L a (ds ++ [d])) :: m))
    (hbase : attributeBase (.Name x px) "append" env (eval (.Name x px) env) = eval (.Name x px) env := by rfl) (hline : (apos.endLine == pos.line) = true := by rfl) (hi : interactive env = false := by rfl)
    (hs : swapsWith (.Call (.Attribute (.Name x px) "append" apos) [e] [] pos) none pos'.line env = pure false := by rfl) (hst : starEach [e] env = [(false, eval e env)] := by rfl)
    (hd : (x == ("__debug__" : Str)) = false := by decide) (hc : (x == ("__classdict__" : Str)) = false := by decide) :
    DoS C T k env fz (.Expr (.Call (.Attribute (.Name x px) "append" apos) [e] [] pos) pos') m Q := by
  intro A he Oc O s Qh E g F R p
  refine wpAny_Expr ?_ hi hs
  refine wpAny_Call_method hbase (few_of hns (by simp)) hline meth_append.pa meth_append.slot meth_append.ty (EvB.name hx hl hd hc A T he Oc O s fz _ _ g F R fun v tk r => ?_)
  obtain ⟨rfl, h1, h2, h3, vs, n, h4, h5⟩ := r
  refine ⟨⟨_, h4, rfl⟩, fun b e => by cases e; exact ⟨_, h4, rfl⟩, callWith_meth (hns _ _) (Evs.cons he' Evs.nil hst A T he Oc O _ fz pos _ _ g F R fun ws h₁ tk₁ k₁ g₁ r₁ => ?_)⟩
  cases r₁ with
  | cons r1 r2 =>
    cases r2
    rename_i w
    have F1 := F.kp k₁
    obtain ⟨vs', hpl, hr'⟩ := F1.isList hx
    refine wpAny_list_append_plain (x := w) hpl (fun h₂ hpl₂ hs₂ => ?_) (by simp [hr'.length]; exact hsz)
    have hpl' : h₂.PlainList a (vs' ++ [w]).toArray := by simpa using hpl₂
    exact p .next .next _ O h₂ _ q (F1.giObj g₁ hs₂.extBut hx rfl) (Kd.trans k₁.dict (F1.kdObj hs₂.extBut hx rfl)) (F1.setL hx hs₂ hpl' (Reps.append (.cons r1 .nil) hr')) trivial
theorem DoS.reverse {x : Str} {px apos pos pos' : Pos} {a : Addr} {ds : List PyData} (hx : m.lookup x = some (.L a ds)) (hl : Loc env x) (hsz : ds.length ≤ sizeLine) (q : Q .next ((x, .L a ds.reverse) :: m))
    (hbase : attributeBase (.Name x px) "reverse" env (eval (.Name x px) env) = eval (.Name x px) env := by rfl) (hline : (apos.endLine == pos.line) = true := by rfl) (hi : interactive env = false := by rfl)
    (hs : swapsWith (.Call (.Attribute (.Name x px) "reverse" apos) [] [] pos) none pos'.line env = pure false := by rfl)
    (hd : (x == ("__debug__" : Str)) = false := by decide) (hc : (x == ("__classdict__" : Str)) = false := by decide) :
    DoS C T k env fz (.Expr (.Call (.Attribute (.Name x px) "reverse" apos) [] [] pos) pos') m Q := by
  intro A he Oc O s Qh E g F R p
  refine wpAny_Expr ?_ hi hs
  refine wpAny_Call_method hbase (few_of NoStar.nil (by decide)) hline meth_reverse.pa meth_reverse.slot meth_reverse.ty (EvB.name hx hl hd hc A T he Oc O s fz _ _ g F R fun v tk r => ?_)
  obtain ⟨rfl, h1, h2, h3, vs, n, h4, h5⟩ := r
  refine ⟨⟨_, h4, rfl⟩, fun b e => by cases e; exact ⟨_, h4, rfl⟩, callWith_meth (NoStar.nil _ _) (Evs.nil A T he Oc O _ fz pos _ _ g F R fun ws h₁ tk₁ k₁ g₁ r₁ => ?_)⟩
  cases r₁
  have F1 := F.kp k₁
  obtain ⟨vs', ⟨n', ho'⟩, hr'⟩ := F1.isList hx
  refine call_meets PySem.F.slot_list_reverse ⟨_, ho', rfl⟩ PySem.F.entry_list_reverse (PySem.F.args_list_reverse_1 _) (AutoListH.list_reverse_list_0 a vs'.toArray n' (by simp [hr'.length]; exact hsz)) ⟨ho', ?_⟩
  have hs₂ : Heap.SameBut a h₁ (h₁.update a (Obj.mapSeq fun x => x.reverse)) := Heap.SameBut.update ..
  have hpl' : (h₁.update a (Obj.mapSeq fun x => x.reverse)).PlainList a vs'.reverse.toArray := by
    refine ⟨n', ?_⟩
    rw [Heap.get?_update_self _ ho' (by rfl)]
    simp [Obj.mapSeq]
  exact p .next .next _ O _ _ q (F1.giObj g₁ hs₂.extBut hx rfl) (Kd.trans k₁.dict (F1.kdObj hs₂.extBut hx rfl)) (F1.setL hx hs₂ hpl' (Reps.reverse hr')) trivial
theorem Reps.erase {O h} : ∀ {vs ds} (i : Nat), Reps O h vs ds → Reps O h (vs.eraseIdx i) (ds.eraseIdx i)
  | [], _, i, r => by cases r; exact .nil
  | v :: vs, _, 0, r => by cases r with | cons h1 h2 => exact h2
  | v :: vs, _, i + 1, r => by cases r with | cons h1 h2 => exact .cons h1 (Reps.erase i h2)
theorem DoS.del {x : Str} {px p' pos : Pos} {ie : Expr} {i : Int} {j : Nat} {a : Addr} {ds : List PyData} (hx : m.lookup x = some (.L a ds)) (hl : Loc env x) (hi : Ev C k env m ie (.int i)) (hj : seqIndex? i ds.length = some j) (hsz : ds.length ≤ sizeLine)
    (hfit : Builtin.List.listFitsIndex i = true) (q : Q .next ((x, .L a (ds.eraseIdx j)) :: m)) (hd : (x == ("__debug__" : Str)) = false := by decide) (hc : (x == ("__classdict__" : Str)) = false := by decide) :
    DoS C T k env fz (.Delete [.Subscript (.Name x px) ie p'] pos) m Q := by
  intro A he Oc O s Qh E g F R p
  refine wpAny_Delete (wpAny_deleteEach_cons (wpAny_delete_Subscript (EvB.name hx hl hd hc A T he Oc O s fz _ _ g F R fun v tk r => ?_)))
  obtain ⟨rfl, h1, h2, h3, vs, n, h4, h5⟩ := r
  refine hi A T he Oc O _ fz _ _ g F R fun v₁ h₁ tk₁ k₁ g₁ r₁ => ?_
  cases r₁
  have F1 := F.kp k₁
  obtain ⟨vs', hpl, hr'⟩ := F1.isList hx
  have hlen := hr'.length
  refine wpAny_delItem_plain (k := j) hpl hfit (by simpa [hlen] using hj) (fun h₂ hpl₂ hs₂ => ?_) (by simp [hlen]; exact hsz)
  have hpl' : h₂.PlainList a (vs'.eraseIdx j).toArray := by
    have e : vs'.toArray.eraseIdxIfInBounds j = (vs'.eraseIdx j).toArray := by
      apply Array.ext'
      simp [Array.eraseIdxIfInBounds]
      try split
      all_goals (try rfl)
      all_goals (try (rw [List.eraseIdx_of_length_le (by omega)]))
    rw [e] at hpl₂; exact hpl₂
  exact wpAny_deleteEach_nil (p .next .next _ O h₂ _ q (F1.giObj g₁ hs₂.extBut hx rfl) (Kd.trans k₁.dict (F1.kdObj hs₂.extBut hx rfl)) (F1.setL hx hs₂ hpl' (Reps.erase j hr')) trivial)
theorem set_plain {A : Around} {s : Shared} {E : Value → Shared → Prop} {l : Addr} {vs : List Value} {i : Int} {t : Tok} {v : Value} {Q : Unit → Shared → Prop} (hl : s.heap.PlainList l vs.toArray) (h0 : 0 ≤ i) (hfit : i < 2 ^ 63) (hn : i < vs.length)
    (hQ : ∀ h', h'.PlainList l (vs.set i.toNat v).toArray → Heap.SameBut l s.heap h' → Q () { s with heap := h' }) : wpAny C.M A (setItem (.ref l) (.int i t) v) Q E s := by
  obtain ⟨n, ho⟩ := hl
  have hT : s.TypeIs (.ref l) "list" := ⟨_, ho, rfl⟩
  unfold setItem
  try with_reducible refine wpAny_holding ?_
  first | refine wpAny_bind (wpAny_pure ?_) | skip
  refine wpAny_bind (wpAny_sequenceKey hT (by decide) ?_)
  refine wpAny_bind (wpAny_callSpecial?_slot (name := Str.ofString "__setitem__") hT slot_list_setitem (wpAny_call_entry slot_list_setitem hT entry_list_setitem ?_ (args_list_setitem _ _ _)))
  show wpAny _ _ (Builtin.List.listSubscript? (.int i t) >>= _) _ _ s
  refine wpAny_bind (wpAny_listSubscript_int (fitsIndex_of h0 hfit) ?_)
  clear hfit
  obtain ⟨j, rfl⟩ := Int.eq_ofNat_of_zero_le h0
  have hj : j < vs.length := by omega
  have hx' : vs.toArray[j]? = some vs[j] := by simp [hj]
  show wpAny _ _ ((seqItemAt l j >>= fun r => pure (r.map (j, ·))) >>= _) _ _ s
  refine wpAny_bind (wpAny_bind (wpAny_seqItemAt ho rfl (wpAny_pure ?_)))
  rw [hx']
  show wpAny _ _ (setSeqItemAt l j v >>= _) _ _ s
  have hfin : (s.heap.update l (Obj.mapSeq (·.setIfInBounds j v))).PlainList l (vs.set j v).toArray := by
    refine ⟨n, ?_⟩
    rw [Heap.get?_update_self _ ho (by rfl)]
    simp [Obj.mapSeq]
  refine wpAny_bind (wpAny_setSeqItemAt ho rfl ?_)
  first
    | exact wpAny_bind (wpAny_pure (wpAny_pure ⟨.none, rfl, wpAny_pure (hQ _ hfin (Heap.SameBut.update ..))⟩))
    | exact wpAny_pure ⟨.none, rfl, wpAny_pure (hQ _ hfin (Heap.SameBut.update ..))⟩
theorem DoS.set {x : Str} {px p' pos : Pos} {ie value : Expr} {i : Int} {a : Addr} {ds : List PyData} {d : PyData} (hx : m.lookup x = some (.L a ds)) (hl : Loc env x) (hv : Ev C k env m value d) (hi : Ev C k env m ie (.int i)) (h0 : 0 ≤ i) (hn : i < ds.length) (hsz : ds.length ≤ sizeLine)
    (q : Q .next ((x, .L a (ds.set i.toNat d)) :: m)) (hs : swapsWith value (some (.Subscript (.Name x px) ie p')) pos.line env = pure false := by rfl)
    (hd : (x == ("__debug__" : Str)) = false := by decide) (hc : (x == ("__classdict__" : Str)) = false := by decide) :
    DoS C T k env fz (.Assign [.Subscript (.Name x px) ie p'] value pos) m Q := by
  intro A he Oc O s Qh E g F R p
  refine wpAny_Assign_Subscript (hv A T he Oc O s fz _ _ g F R fun w h₀ tk₀ k₀ g₀ r₀ => ?_) hs
  have F0 := F.kp k₀
  refine EvB.name hx hl hd hc A T he Oc O { s with heap := h₀, toks := tk₀ } fz _ _ g₀ F0 (R.kp k₀) fun v tk r => ?_
  obtain ⟨rfl, h1, h2, h3, vs, n, h4, h5⟩ := r
  refine hi A T he Oc O _ fz _ _ g₀ F0 (R.kp k₀) fun v₁ h₁ tk₁ k₁ g₁ r₁ => ?_
  cases r₁
  have F1 := F0.kp k₁
  obtain ⟨vs', hpl, hr'⟩ := F1.isList hx
  have hlen := hr'.length
  refine set_plain hpl h0 (by rw [sizeLine_eq] at hsz; omega) (by rw [hlen]; exact hn) fun h₂ hpl₂ hs₂ => ?_
  exact p .next .next _ O h₂ _ q (F1.giObj g₁ hs₂.extBut hx rfl) (Kd.trans (Kd.trans k₀.dict k₁.dict) (F1.kdObj hs₂.extBut hx rfl)) (F1.setL hx hs₂ hpl₂ (Reps.set (k₁.rep F0.tabs r₀) _ hr')) trivial
end

theorem bindL_spec {kf : Str → Option NameKind} {x : Str} (hk : kf x = some .local) : ∀ (bs : List (Str × Value)) (m0 : Str → Option Value), bindL kf bs m0 x = (bs.reverse.lookup x).or (m0 x)
  | [], m0 => rfl
  | (n, v) :: r, m0 => by
    rw [bindL, bindL_spec hk r, List.reverse_cons, List.lookup_append]
    cases h : (r.reverse).lookup x with
    | some u => rfl
    | none =>
      by_cases hx : x = n
      · subst hx; simp [hk]
      · have hb : (x == n) = false := by simpa using hx
        by_cases hn : kf n = some .local <;> simp [hn, hx, List.lookup_cons, hb]
theorem bindC_spec {kf : Str → Option NameKind} {x : Str} (hk : kf x ≠ some .local) : ∀ (bs : List (Str × Value)) (m0 : Str → Option Value), bindC kf bs m0 x = (bs.reverse.lookup x).or (m0 x)
  | [], m0 => rfl
  | (n, v) :: r, m0 => by
    rw [bindC, bindC_spec hk r, List.reverse_cons, List.lookup_append]
    cases h : (r.reverse).lookup x with
    | some u => rfl
    | none =>
      by_cases hx : x = n
      · subst hx; simp [hk]
      · have hb : (x == n) = false := by simpa using hx
        by_cases hn : kf n = some .local <;> simp [hn, hx, List.lookup_cons, hb]
/-- names paired with values and with their words -/
inductive Zip (P : Value → Bd → Prop) : List (Str × Value) → Mp → Prop
  | nil : Zip P [] []
  | cons {x v b vs m} : P v b → Zip P vs m → Zip P ((x, v) :: vs) ((x, b) :: m)
theorem Zip.lookup {P : Value → Bd → Prop} {x : Str} {b : Bd} : ∀ {vs : List (Str × Value)} {m : Mp}, Zip P vs m → m.lookup x = some b → ∃ v, vs.lookup x = some v ∧ P v b
  | _, _, .nil, h => by cases h
  | _, _, .cons (x := y) (v := v) hp hz, h => by
    rw [List.lookup_cons] at h ⊢
    cases hb : x == y with
    | true => rw [hb] at h; cases h; exact ⟨_, rfl, hp⟩
    | false => rw [hb] at h; exact hz.lookup h
theorem Zip.append {P : Value → Bd → Prop} : ∀ {vs : List (Str × Value)} {m : Mp} {vs' m'}, Zip P vs m → Zip P vs' m' → Zip P (vs ++ vs') (m ++ m')
  | _, _, _, _, .nil, h => h
  | _, _, _, _, .cons hp hz, h => .cons hp (hz.append h)
theorem Zip.rev {P : Value → Bd → Prop} : ∀ {vs : List (Str × Value)} {m : Mp}, Zip P vs m → Zip P vs.reverse m.reverse
  | _, _, .nil => .nil
  | _, _, .cons hp hz => by rw [List.reverse_cons, List.reverse_cons]; exact hz.rev.append (.cons hp .nil)
theorem Zip.mk {P : Value → Bd → Prop} {O h} : ∀ (names : List Str) {vs : List Value} {ds : List PyData}, names.length = ds.length → Reps O h vs ds → (∀ v d, Rep O h v d → P v (.d d)) → Zip P (names.zip vs) (names.zip (ds.map Bd.d))
  | [], _, _, e, r, _ => .nil
  | n :: ns, _, [], e, r, _ => by cases e
  | n :: ns, _, d :: ds, e, r, hp => by cases r with | cons h1 h2 => exact .cons (hp _ _ h1) (Zip.mk ns (by simpa using e) h2 hp)
theorem Zip.noaddr {P : Value → Bd → Prop} {x : Str} {b : Bd} {names : List Str} {ds : List PyData} (h : ((names.zip (ds.map Bd.d)).reverse : Mp).lookup x = some b) : b.addr = none := by
  have hm := mem_of_lookup h
  rw [List.mem_reverse] at hm
  obtain ⟨d, _, rfl⟩ := List.mem_map.mp (List.of_mem_zip hm).2
  rfl
noncomputable def cellAddrs (cs : List (Str × Addr)) : List Addr := (cs.map (·.1)).filterMap fun n => cs.lookup n
theorem mem_cellAddrs {cs : List (Str × Addr)} {c : Addr} : c ∈ cellAddrs cs ↔ ∃ n, cs.lookup n = some c := by
  unfold cellAddrs
  rw [List.mem_filterMap]
  exact ⟨fun ⟨n, _, e⟩ => ⟨n, e⟩, fun ⟨n, e⟩ => ⟨n, List.mem_map.mpr ⟨_, mem_of_lookup e, rfl⟩, e⟩⟩
section
variable {C : Cfg}
theorem FS.enter {fd : FuncData} {a : Addr} {s s₁ : Shared} {O : List Addr} {binds : List (Str × Value)} {m : Mp} (g : GI C s.heap) (av : Av C O s.heap) (hk : fd.scope.kind = .function) (hg : fd.globals = mainGlobals) (hb : fd.builtins = builtinsNs)
    (hkind : ∀ x ∈ binds, fd.scope.names.lookup x.1 = some .local ∨ (fd.scope.names.lookup x.1 = some .cell ∧ ((cellsFrom (s.heap.objs.size + 1) fd.scope.names []).lookup x.1).isSome = true))
    (x : InCallC s (callEnvC fd s.heap.objs.size a).locals (bindL (callEnvC fd s.heap.objs.size a).kindOf binds fun _ => none) (callEnvC fd s.heap.objs.size a).cells (bindC (callEnvC fd s.heap.objs.size a).kindOf binds fun _ => none) s₁)
    (hz : Zip (fun v b => b.addr = none ∧ Bears C C.T s.heap O s.heap v b) binds.reverse m) :
    ∃ O', FS C C.T (callEnvC fd s.heap.objs.size a) s.heap O O' s₁.heap false m ∧ GI C s₁.heap ∧ Kd s.heap s₁.heap := by
  have keep := x.toInCall.keep
  have g1 : GI C s₁.heap := g.keepAll keep
  have fresh : ∀ c, s.heap.objs.size ≤ c → s.heap.get? c = none := fun c hc => by
    cases e : s.heap.get? c with
    | none => rfl
    | some o => exact absurd (Heap.lt_size e) (Nat.not_lt.mpr hc)
  have hmem : ∀ {x c}, (callEnvC fd s.heap.objs.size a).cells.lookup x = some c → s.heap.get? c = none := fun {y c} e => fresh c (Nat.le_of_lt (x.above y c (mem_of_lookup e)))
  obtain ⟨oL, esL, epL, eL, dL, _⟩ := id x.toInCall.ns
  have nofresh : ∀ c, s.heap.get? c = none → c ∉ O := fun c hc z => by obtain ⟨_, o, e⟩ := av.2 c z; rw [hc] at e; cases e
  have hin : ∀ b ∈ s.heap.objs.size :: (cellAddrs (callEnvC fd s.heap.objs.size a).cells ++ O), b ∈ O ∨ s.heap.get? b = none := by
    intro b hb
    rcases List.mem_cons.mp hb with rfl | hb
    · exact .inr (size_none _)
    · rcases List.mem_append.mp hb with hb | hb
      · obtain ⟨n, hm⟩ := mem_cellAddrs.mp hb
        exact .inr (hmem hm)
      · exact .inl hb
  have mv : ∀ v b, b.addr = none ∧ Bears C C.T s.heap O s.heap v b → Bears C C.T s.heap (s.heap.objs.size :: (cellAddrs (callEnvC fd s.heap.objs.size a).cells ++ O)) s₁.heap v b := fun v b z => z.2.moved
    (fun _ q => List.mem_cons_of_mem _ (List.mem_append_right _ q)) (fun c o e hc _ => ⟨keep c o e, fun q => (hin c q).elim hc fun n => by rw [n] at e; cases e⟩) fun c o _ e _ _ => keep c o e
  refine ⟨s.heap.objs.size :: (cellAddrs (callEnvC fd s.heap.objs.size a).cells ++ O), ⟨hk, hg, hb, fun b hb => List.mem_cons_of_mem _ (List.mem_append_right _ (av.1 b hb)), fun _ z => z, av.1, fun b hb => ⟨List.mem_cons_of_mem _ (List.mem_append_right _ hb), (av.2 b hb).2⟩,
    fun b hb => ?_, ⟨.head _, size_none _⟩, fun y c e => ?_, fun y z c e1 e2 => name_of_addr x.apart (mem_of_lookup e1) (mem_of_lookup e2), ⟨_, x.toInCall.ns, fun y b e => ?_⟩, fun y z by' bz c e1 e2 a1 a2 => ?_, .of_keeps keep⟩, g1, (Kp.of_keeps (C := C) (O := []) keep).dict⟩
  · rcases List.mem_cons.mp hb with rfl | hb
    · exact ⟨g.fresh (size_none _), oL, eL⟩
    · rcases List.mem_append.mp hb with hb | hb
      · obtain ⟨n, hm⟩ := mem_cellAddrs.mp hb
        obtain ⟨o, eo, _⟩ := x.cell n b hm
        exact ⟨g.fresh (hmem hm), o, eo⟩
      · obtain ⟨e1, o, e⟩ := av.2 b hb
        exact ⟨e1, o, keep _ _ e⟩
  · refine ⟨fun z => nofresh c (hmem e) (av.1 c z), ⟨_, x.cell y c e⟩, fun _ => ⟨List.mem_cons_of_mem _ (List.mem_append_left _ (mem_cellAddrs.mpr ⟨y, e⟩)), hmem e⟩⟩
  · obtain ⟨v, ev, hv⟩ := hz.lookup e
    have hbl : ∃ n, (y, n) ∈ binds := ⟨v, List.mem_reverse.mp (mem_of_lookup ev)⟩
    obtain ⟨n, hm⟩ := hbl
    refine ⟨fun hl => ⟨v, ?_, mv _ _ hv⟩, fun hl => ?_, v, mv _ _ hv⟩
    · rw [bindL_spec hl, ev]; rfl
    · have hnl : (callEnvC fd s.heap.objs.size a).kindOf y ≠ some .local := fun z => by rw [z] at hl; rcases hl with hl | hl <;> cases hl
      have hc := (hkind _ hm).resolve_left hnl
      obtain ⟨c, hc⟩ := Option.isSome_iff_exists.mp hc.2
      have := x.cell y c hc
      rw [bindC_spec hnl, ev] at this
      exact ⟨c, v, hc, this, mv _ _ hv⟩
  · obtain ⟨v, _, hv⟩ := hz.lookup e1
    rw [hv.1] at a1; cases a1
theorem Room.deeper {k : Nat} {A : Around} {h h' : Heap} {env : Env} (R : Room C (k + 1) A h) (kd : Kd h h') (hk : env.scope.kind = .function) {L : Addr} (hf : env.frame = some L) (hb : C.base L = none) (ho : ∃ o es ep, h'.get? L = some o ∧ o.data = .dict es ep) : Room C k (A.deeper env) h' := by
  obtain ⟨outer, e, q⟩ := (R.kd kd).frames
  have h2 := R.depth
  have h3 := R.units
  refine ⟨R.handled, ?_, ?_, env :: outer, ?_, ?_⟩
  · show A.depth + 1 + k + 100 < _; omega
  · show A.units + 3 + 16 * k + 1000 < _; omega
  · show A.frames.map (env :: ·) = _; rw [e]; rfl
  · intro en hen
    rcases List.mem_cons.mp hen with rfl | hen
    · refine ⟨by rw [hk]; decide, L, ?_⟩
      obtain ⟨o, es, ep, e1, e2⟩ := ho
      exact ⟨o, es, ep, hf, hb, e1, e2⟩
    · exact q en hen
structure HasDef (C : Cfg) (d : DefRec) (a : Addr) : Prop where
  mg : C.mg d.name = some (.ref a)
  fn : ∃ o pm code doc, C.base a = some o ∧ o.data = .func (d.data pm code doc) ∧ ∀ h, GI C h → h.CodeRec code d.name
theorem HasDef.isFn {d : DefRec} {a : Addr} (h : HasDef C d a) : Fn C (.ref a) := .fn a fun hh g => by
  obtain ⟨o, pm, code, doc, e, hd, _⟩ := h.fn
  exact ⟨o, _, g.base _ _ e, hd⟩
theorem Opn.ofDef {d : DefRec} {a : Addr} {k : Nat} {ds : List PyData} {r : PyData} (names : List Str) (m : Mp) (st : Sta C) (hd : HasDef C d a)
    (hbind : ∀ pm code doc vals, vals.length = names.length → bindArgs (d.data pm code doc) ⟨vals, []⟩ = pure (names.zip vals))
    (hkind : ∀ n ∈ names, d.scope.names.lookup n = some .local ∨ (d.scope.names.lookup n = some .cell ∧ ∀ L, ((cellsFrom (L + 1) d.scope.names []).lookup n).isSome = true))
    (hm : m = (names.zip (ds.map Bd.d)).reverse) (hlen : names.length = ds.length)
    (body : ∀ L pm code doc, Do C C.T k (callEnvC (d.data pm code doc) L a) false d.body m fun f _ => f = .ret r ∨ (f = .next ∧ r = .none))
    (hco : d.scope.isCoroutine = false := by rfl) (hgen : d.scope.isGenerator = false := by rfl) (hk : d.scope.kind = .function := by rfl) : Opn C (k + 1) (fun vs => PySem.call (.ref a) vs) ds r := by
  intro A O s vs Q E g av R rs p
  obtain ⟨o, pm, code, doc, e, hdat, hcr⟩ := hd.fn
  have hl := rs.length
  refine wpAny_call (codeAny_call_cells (body := d.body) (binds := names.zip vs) (by have := R.depth; omega) (g.base _ _ e) hdat (st.ns _ g).2.2 (hcr _ g) rfl (hbind pm code doc vs (by rw [hl, hlen])) rfl ?_ (fun s₁ x => ?_) hco hgen hk)
  · intro y hy
    have hn := (List.of_mem_zip hy).1
    exact (hkind y.1 hn).imp id fun q => ⟨q.1, q.2 _⟩
  · obtain ⟨O', F, g1, kd⟩ := FS.enter (m := m) g av (fd := d.data pm code doc) (a := a) hk rfl rfl (fun y hy => (hkind y.1 (List.of_mem_zip hy).1).imp id fun q => ⟨q.1, q.2 _⟩) x (by
      rw [hm]
      exact (Zip.mk names hlen rs fun v d r => ⟨rfl, r⟩).rev)
    obtain ⟨h', tk, es⟩ := x.toInCall.same
    subst es
    obtain ⟨oL, esL, epL, eL, dL, _⟩ := id x.toInCall.ns
    have R' : Room C k (A.deeper (callEnvC (d.data pm code doc) s.heap.objs.size a)) h' := R.deeper kd hk (L := s.heap.objs.size) rfl (g.fresh (size_none _)) ⟨oL, esL, epL, eL, dL⟩
    refine body _ pm code doc _ s.heap O O' _ _ _ g1 F R' fun f fd m' O₂ h₂ tk₂ q g₂ kd₂ F₂ fb => ?_
    rcases q with rfl | ⟨rfl, rfl⟩
    · cases f <;> first | exact fb.elim | skip
      exact p _ h₂ tk₂ F₂.ext g₂ (fb.sub fun c hc => .inl (F₂.sup c hc).1)
    · cases f <;> first | exact fb.elim | skip
      exact p _ h₂ tk₂ F₂.ext g₂ .nn
end

noncomputable def prog : Program := PySem.Challenge.rw_sh0022_01.row.prog
noncomputable def rawAt (i : Nat) : DefRec := ((PySem.defsOf prog)[i]?).getD ⟨"", ⟨[], [], none, [], [], none, []⟩, [], { kind := .function, names := [], isGenerator := false, isCoroutine := false }, ⟨0, 0, 0, 0⟩⟩
noncomputable def xParse : { d : DefRec // rawAt 0 = d } := by
  refine ⟨?d, ?h⟩
  case h => conv => { lhs; whnf }
noncomputable def dParse : DefRec := xParse.1
noncomputable def xDiv2 : { d : DefRec // rawAt 1 = d } := by
  refine ⟨?d, ?h⟩
  case h => conv => { lhs; whnf }
noncomputable def dDiv2 : DefRec := xDiv2.1
noncomputable def xDiv3 : { d : DefRec // rawAt 2 = d } := by
  refine ⟨?d, ?h⟩
  case h => conv => { lhs; whnf }
noncomputable def dDiv3 : DefRec := xDiv3.1
noncomputable def xI2D : { d : DefRec // rawAt 3 = d } := by
  refine ⟨?d, ?h⟩
  case h => conv => { lhs; whnf }
noncomputable def dI2D : DefRec := xI2D.1
noncomputable def xD2I : { d : DefRec // rawAt 4 = d } := by
  refine ⟨?d, ?h⟩
  case h => conv => { lhs; whnf }
noncomputable def dD2I : DefRec := xD2I.1
noncomputable def xDP : { d : DefRec // rawAt 5 = d } := by
  refine ⟨?d, ?h⟩
  case h => conv => { lhs; whnf }
noncomputable def dDP : DefRec := xDP.1
noncomputable def xDM : { d : DefRec // rawAt 6 = d } := by
  refine ⟨?d, ?h⟩
  case h => conv => { lhs; whnf }
noncomputable def dDM : DefRec := xDM.1
noncomputable def xEM : { d : DefRec // rawAt 7 = d } := by
  refine ⟨?d, ?h⟩
  case h => conv => { lhs; whnf }
noncomputable def dEM : DefRec := xEM.1
noncomputable def xNum : { d : DefRec // rawAt 8 = d } := by
  refine ⟨?d, ?h⟩
  case h => conv => { lhs; whnf }
noncomputable def dNum : DefRec := xNum.1
noncomputable def xChk : { d : DefRec // rawAt 9 = d } := by
  refine ⟨?d, ?h⟩
  case h => conv => { lhs; whnf }
noncomputable def dChk : DefRec := xChk.1
noncomputable def xMend : { d : DefRec // rawAt 10 = d } := by
  refine ⟨?d, ?h⟩
  case h => conv => { lhs; whnf }
noncomputable def dMend : DefRec := xMend.1
noncomputable def xLaw : { d : DefRec // rawAt 11 = d } := by
  refine ⟨?d, ?h⟩
  case h => conv => { lhs; whnf }
noncomputable def dLaw : DefRec := xLaw.1
example : dParse.name = "_parse_varint" ∧ dDiv2.name = "_div2n1n" ∧ dDiv3.name = "_div3n2n" ∧ dI2D.name = "_int2digits" ∧ dD2I.name = "_digits2int" ∧ dDP.name = "_divmod_pos" ∧ dDM.name = "int_divmod" ∧ dEM.name = "_ellipsis_match" ∧
  dNum.name = "_law_numbers" ∧ dChk.name = "_law_check" ∧ dMend.name = "_law_mended" ∧ dLaw.name = "law" := ⟨rfl, rfl, rfl, rfl, rfl, rfl, rfl, rfl, rfl, rfl, rfl, rfl⟩
/-- the nested def of a body -/
noncomputable def innerAt (d : DefRec) (i : Nat) : DefRec := match d.body[i]? with
  | some (.FunctionDef name params body [] none [] scope none _ pos) => ⟨name, params, body, scope, pos⟩
  | _ => d
noncomputable def xInI : { d : DefRec // innerAt dI2D 1 = d } := by
  refine ⟨?d, ?h⟩
  case h => conv => { lhs; whnf }
noncomputable def dInI : DefRec := xInI.1
noncomputable def xInD : { d : DefRec // innerAt dD2I 0 = d } := by
  refine ⟨?d, ?h⟩
  case h => conv => { lhs; whnf }
noncomputable def dInD : DefRec := xInD.1
example : dInI.name = "inner" ∧ dInD.name = "inner" := ⟨rfl, rfl⟩
/-- what the surroundings hold -/
structure Wd (C : Cfg) where
  st : Sta C
  aParse : Addr
  hParse : HasDef C dParse aParse
  aDiv2 : Addr
  hDiv2 : HasDef C dDiv2 aDiv2
  aDiv3 : Addr
  hDiv3 : HasDef C dDiv3 aDiv3
  aI2D : Addr
  hI2D : HasDef C dI2D aI2D
  aD2I : Addr
  hD2I : HasDef C dD2I aD2I
  aDP : Addr
  hDP : HasDef C dDP aDP
  aDM : Addr
  hDM : HasDef C dDM aDM
  aEM : Addr
  hEM : HasDef C dEM aEM
  aNum : Addr
  hNum : HasDef C dNum aNum
  aChk : Addr
  hChk : HasDef C dChk aChk
  aMend : Addr
  hMend : HasDef C dMend aMend
  ki0 : C.ki = none
  kd0 : C.kd = none
  ne : C.ti ≠ C.td
  cI : Addr
  fI : ∃ o pm doc, C.base aI2D = some o ∧ o.data = .func (dI2D.data pm (.ref cI) doc)
  codeI : ∀ h, GI C h → CodeHd h cI C.ti
  posI : C.pi = dInI.pos
  cD : Addr
  fD : ∃ o pm doc, C.base aD2I = some o ∧ o.data = .func (dD2I.data pm (.ref cD) doc)
  codeD : ∀ h, GI C h → CodeHd h cD C.td
  posD : C.pd = dInD.pos
  blt : ∀ h, GI C h → ∀ P ∈ C.T, h.BuiltinsAt C.mg P
  lim : ∃ t, C.mg "_DIV_LIMIT" = some (.int 4000 t)
  mark : ∃ t, C.mg "ELLIPSIS_MARKER" = some (.str "..." t)
  next : Glo C "next" (.builtin "next")
  iter : Glo C "iter" (.builtin "iter")
  bytes : Glo C "bytes" (.type "bytes")
  divmod : Glo C "divmod" (.builtin "divmod")
  reversed : Glo C "reversed" (.type "reversed")
  len : Glo C "len" (.builtin "len")
  range : Glo C "range" (.type "range")
  sum : Glo C "sum" (.builtin "sum")
  chr : Glo C "chr" (.builtin "chr")
  abs : Glo C "abs" (.builtin "abs")
  sorted : Glo C "sorted" (.builtin "sorted")
  stop : Glo C "StopIteration" (.type "StopIteration")
section
variable {C : Cfg} {k : Nat} {env : Env} {m : Mp}
theorem Ev.lim (W : Wd C) {pos : Pos} (hk : env.kindOf "_DIV_LIMIT" = some .globalImplicit) : Ev C k env m (.Name "_DIV_LIMIT" pos) (.int 4000) := by
  obtain ⟨t, h⟩ := W.lim
  exact Ev.globd W.st hk (.inl h) fun _ _ => .int _ _
theorem Ev.mark (W : Wd C) {pos : Pos} (hk : env.kindOf "ELLIPSIS_MARKER" = some .globalImplicit) : Ev C k env m (.Name "ELLIPSIS_MARKER" pos) (.str "...") := by
  obtain ⟨t, h⟩ := W.mark
  exact Ev.globd W.st hk (.inl h) fun _ _ => .str _ _
end

section
variable {C : Cfg} {k : Nat} {env : Env} {m : Mp}
theorem Ev.cmp' {l r : Expr} {op : CmpOp} {pos : Pos} {d₁ d₂ d : PyData} (hm : behindInMarks op r = false) (hl : Ev C k env m l d₁) (hr : Ev C k env m r d₂) (ho : Op2 C (compareOp op) d₁ d₂ d) : Ev C k env m (.Compare l [op] [r] pos) d := Ev.cmp hl hr ho hm
theorem Te.cmp' {l r : Expr} {op : CmpOp} {pos : Pos} {d₁ d₂ : PyData} {b : Bool} (hm : behindInMarks op r = false) (hl : Ev C k env m l d₁) (hr : Ev C k env m r d₂) (ho : Op2 C (compareOp op) d₁ d₂ (.bool b)) : Te C k env m (.Compare l [op] [r] pos) b := Te.cmp hl hr ho hm
theorem Te.val' {e : Expr} {d : PyData} {b : Bool} (he : ∀ whole, isTrue e env whole = (do let v ← whole; standAt e.pos; holding [v] (truthy v))) (hl : Ev C k env m e d) (ht : OpT C d b) : Te C k env m e b := Te.val hl ht he
theorem Evs.cons' {e : Expr} {es : List Expr} {d : PyData} {ds : List PyData} (hs : starEach (e :: es) env = (false, eval e env) :: starEach es env) (h1 : Ev C k env m e d) (h2 : Evs C k env m es ds) : Evs C k env m (e :: es) (d :: ds) := Evs.cons h1 h2 hs
theorem Ev.tuple' {es : List Expr} {kk : Nat} {pos : Pos} {ds : List PyData} (h : Evs C k env m es ds) (hsz : ds.length ≤ sizeLine) : Ev C k env m (.Tuple es kk pos) (.tuple ds) := Ev.tuple h hsz
theorem EvL.list' {es : List Expr} {pos : Pos} {ds : List PyData} (h : Evs C k env m es ds) (hsz : ds.length ≤ sizeLine) : EvL C k env m (.List es pos) ds := EvL.list h hsz
theorem Ev.list' {es : List Expr} {pos : Pos} {ds : List PyData} (h : Evs C k env m es ds) (hsz : ds.length ≤ sizeLine) : Ev C k env m (.List es pos) (.list ds) := (EvL.list h hsz).ev
theorem Ev.bi {x : Str} {p pos : Pos} {args : List Expr} {id : String} {ds : List PyData} {d : PyData} (W : Wd C) (hk : env.kindOf x = some .globalImplicit) (hg : Glo C x (.builtin id)) (hd : (x == ("__debug__" : Str)) = false) (hns : NoStar args) (ha : Evs C k env m args ds)
    (ho : Opn C 0 (fun vs => PySem.call (.builtin id) vs) ds d) : Ev C k env m (.Call (.Name x p) args [] pos) d := Ev.call (EvB.glob W.st hk hg hd) (.bi _) ha hns ho (Nat.zero_le _)
theorem EvL.bi {x : Str} {p pos : Pos} {args : List Expr} {id : String} {ds : List PyData} {d : List PyData} (W : Wd C) (hk : env.kindOf x = some .globalImplicit) (hg : Glo C x (.builtin id)) (hd : (x == ("__debug__" : Str)) = false) (hns : NoStar args) (ha : Evs C k env m args ds)
    (ho : OpnL C 0 (fun vs => PySem.call (.builtin id) vs) ds d) : EvL C k env m (.Call (.Name x p) args [] pos) d := EvL.call (EvB.glob W.st hk hg hd) (.bi _) ha hns ho (Nat.zero_le _)
theorem Ev.fn {x : Str} {p pos : Pos} {args : List Expr} {dr : DefRec} {a : Addr} {ds : List PyData} {d : PyData} {k' : Nat} (W : Wd C) (hd : HasDef C dr a) (hx : dr.name = x) (hk : env.kindOf x = some .globalImplicit) (hdb : (x == ("__debug__" : Str)) = false) (hns : NoStar args) (ha : Evs C k env m args ds)
    (ho : Opn C k' (fun vs => PySem.call (.ref a) vs) ds d) (hle : k' ≤ k) : Ev C k env m (.Call (.Name x p) args [] pos) d := Ev.call (EvB.glob W.st hk (.inl (hx ▸ hd.mg)) hdb) hd.isFn ha hns ho hle
theorem Ev.meth' {o : Expr} {name : Str} {apos pos : Pos} {args : List Expr} {T id : String} {d₀ d : PyData} {ds : List PyData} (M : Meth name T id) (hbase : attributeBase o name env (eval o env) = eval o env) (hline : (apos.endLine == pos.line) = true) (hl : args.length < 20)
    (hns : NoStar args) (h0 : Ev C k env m o d₀) (hT : KindOf d₀ T) (ha : Evs C k env m args ds) (ho : Opn C k (fun vs => PySem.call (.builtin id) vs) (d₀ :: ds) d) : Ev C k env m (.Call (.Attribute o name apos) args [] pos) d := Ev.meth M h0 hT ha hns ho hl hbase hline
theorem EvL.meth' {o : Expr} {name : Str} {apos pos : Pos} {args : List Expr} {T id : String} {d₀ : PyData} {ds d : List PyData} (M : Meth name T id) (hbase : attributeBase o name env (eval o env) = eval o env) (hline : (apos.endLine == pos.line) = true) (hl : args.length < 20)
    (hns : NoStar args) (h0 : Ev C k env m o d₀) (hT : KindOf d₀ T) (ha : Evs C k env m args ds) (ho : OpnL C k (fun vs => PySem.call (.builtin id) vs) (d₀ :: ds) d) : EvL C k env m (.Call (.Attribute o name apos) args [] pos) d := EvL.meth M h0 hT ha hns ho hl hbase hline
theorem Ev.item' {value slice : Expr} {pos : Pos} {xs : List PyData} {i : Int} {d : PyData} {j : Nat} (hs : ∀ o i, subscripted slice false o i = operate [o, i] (getItem o i)) (hv : Ev C k env m value (.list xs)) (hi : Ev C k env m slice (.int i)) (hj : seqIndex? i xs.length = some j) (hx : xs[j]? = some d)
    (hfit : xs.length ≤ sizeLine) : Ev C k env m (.Subscript value slice pos) d := Ev.item hv hi hj hx hfit hs
theorem Ev.itemT' {value slice : Expr} {pos : Pos} {xs : List PyData} {i : Int} {d : PyData} {j : Nat} (hs : ∀ o i, subscripted slice false o i = operate [o, i] (getItem o i)) (hv : Ev C k env m value (.tuple xs)) (hi : Ev C k env m slice (.int i)) (hj : seqIndex? i xs.length = some j) (hx : xs[j]? = some d)
    (hlo : -(2 ^ 63) ≤ i) (hhi : i < 2 ^ 63) : Ev C k env m (.Subscript value slice pos) d := Ev.itemT hv hi hj hx hlo hhi hs
theorem Ev.slice' {value : Expr} {lower upper step : Option Expr} {p' pos : Pos} {xs : List PyData} {lo hi st : Option Int} (hs : ∀ o i, ∃ ops, subscripted (.Slice lower upper step p') false o i = operate ops (getItem o i)) (hv : Ev C k env m value (.list xs)) (h1 : EvP C k env m lower lo) (h2 : EvP C k env m upper hi)
    (h3 : EvP C k env m step st) (hfit : xs.length ≤ sizeLine) (h0 : st ≠ some 0) : Ev C k env m (.Subscript value (.Slice lower upper step p') pos) (.list (dpick xs lo hi st)) := (EvL.slice hv h1 h2 h3 hfit h0 hs).ev
theorem EvP.some' {e : Expr} {i : Int} (h : Ev C k env m e (.int i)) : EvP C k env m (some e) (some i) := h
theorem EvP.none' : EvP C k env m none none := trivial
theorem EvI.range' {p pos : Pos} {e : Expr} {n : Int} (W : Wd C) (hk : env.kindOf "range" = some .globalImplicit) (hns : NoStar [e]) (hs : starEach [e] env = [(false, eval e env)]) (hv : Ev C k env m e (.int n)) (hlo : -(2 ^ 62) ≤ n) (hhi : n < 2 ^ 62) :
    EvI C k env m (.Call (.Name "range" p) [e] [] pos) (rng n.toNat) := EvI.range (EvB.glob W.st hk W.range) hv hlo hhi hns hs
theorem EvI.rev' {p pos : Pos} {e : Expr} {xs : List PyData} (W : Wd C) (hk : env.kindOf "reversed" = some .globalImplicit) (hns : NoStar [e]) (hs : starEach [e] env = [(false, eval e env)]) (hv : Ev C k env m e (.list xs)) :
    EvI C k env m (.Call (.Name "reversed" p) [e] [] pos) xs.reverse := EvI.rev (EvB.glob W.st hk W.reversed) hv hns hs
end

theorem bits_le {a : Int} {k : Nat} (h : a.natAbs < 2 ^ k) : Builtin.Int.intBits a ≤ k := by
  unfold Builtin.Int.intBits
  by_cases h0 : a = 0
  · subst h0; simp
  · have hb : (a == 0) = false := by simpa using h0
    rw [hb]
    have hn : a.natAbs ≠ 0 := by omega
    have := (Nat.log2_lt hn).mpr h
    simp only [Bool.false_eq_true, if_false]
    omega
theorem lt_bits (a : Int) : a.natAbs < 2 ^ Builtin.Int.intBits a := by
  unfold Builtin.Int.intBits
  by_cases h0 : a = 0
  · subst h0; simp
  · have hb : (a == 0) = false := by simpa using h0
    rw [hb]
    have hn : a.natAbs ≠ 0 := by omega
    simp only [Bool.false_eq_true, if_false]
    exact (Nat.log2_lt hn).mp (Nat.lt_succ_self _)
theorem bits_ge {a : Int} {k : Nat} (h : 2 ^ k ≤ a.natAbs) : k + 1 ≤ Builtin.Int.intBits a := by
  have h2 := lt_bits a
  have h3 : 2 ^ k < 2 ^ Builtin.Int.intBits a := Nat.lt_of_le_of_lt h h2
  have := (Nat.pow_lt_pow_iff_right (by decide : 1 < 2)).mp h3
  omega
theorem nat_pow_add (a b : Nat) : (2 : Int) ^ (a + b) = 2 ^ a * 2 ^ b := by rw [Int.pow_add]
theorem two_pos (n : Nat) : (0 : Int) < 2 ^ n := Int.pow_pos (by decide)
theorem natAbs_lt {a : Int} {k : Nat} (h0 : 0 ≤ a) (h : a < 2 ^ k) : a.natAbs < 2 ^ k := by
  have : (a.natAbs : Int) < ((2 ^ k : Nat) : Int) := by
    rw [Int.natAbs_of_nonneg h0]; push_cast; exact h
  exact_mod_cast this
theorem fdiv_pos {a b : Int} (hb : 0 ≤ b) : a.fdiv b = a / b := Int.fdiv_eq_ediv_of_nonneg a hb
theorem fmod_pos {a b : Int} (hb : 0 ≤ b) : a.fmod b = a % b := Int.fmod_eq_emod_of_nonneg a hb
theorem bitAnd_nat (x y : Nat) : Builtin.bitAnd (x : Int) (y : Int) = ((x &&& y : Nat) : Int) := by
  unfold Builtin.bitAnd
  simp
theorem bitOr_nat (x y : Nat) : Builtin.bitOr (x : Int) (y : Int) = ((x ||| y : Nat) : Int) := by
  unfold Builtin.bitOr Builtin.bitAnd Builtin.bitNot
  have h1 : decide (0 ≤ -(x : Int) - 1) = false := decide_eq_false (by omega)
  have h2 : decide (0 ≤ -(y : Int) - 1) = false := decide_eq_false (by omega)
  rw [h1, h2]
  have h3 : (-(-(x : Int) - 1) - 1).toNat = x := by omega
  have h4 : (-(-(y : Int) - 1) - 1).toNat = y := by omega
  simp only [h3, h4]
  omega
theorem pow_cast (n : Nat) : ((2 ^ n : Nat) : Int) = 2 ^ n := by push_cast; rfl
theorem and_mask {a : Int} (h0 : 0 ≤ a) (n : Nat) : Builtin.bitAnd a (2 ^ n - 1) = a % 2 ^ n := by
  obtain ⟨x, rfl⟩ := Int.eq_ofNat_of_zero_le h0
  have h1 : (2 : Int) ^ n - 1 = ((2 ^ n - 1 : Nat) : Int) := by
    have : 1 ≤ 2 ^ n := Nat.one_le_two_pow
    rw [← pow_cast]; omega
  rw [h1, bitAnd_nat, Nat.and_two_pow_sub_one_eq_mod, ← pow_cast]
  rfl
theorem or_add {a b : Int} (h0 : 0 ≤ a) (hb : 0 ≤ b) (n : Nat) (h : b < 2 ^ n) : Builtin.bitOr (a * 2 ^ n) b = a * 2 ^ n + b := by
  obtain ⟨x, rfl⟩ := Int.eq_ofNat_of_zero_le h0
  obtain ⟨y, rfl⟩ := Int.eq_ofNat_of_zero_le hb
  have hy : y < 2 ^ n := by rw [← pow_cast] at h; omega
  have e : (x : Int) * 2 ^ n = ((2 ^ n * x : Nat) : Int) := by rw [← pow_cast, Int.mul_comm]; push_cast; rfl
  rw [e, bitOr_nat, ← Nat.two_pow_add_eq_or_of_lt hy]
  push_cast; rfl
theorem xor_low {a : Int} (h0 : 0 ≤ a) (n : Nat) : Builtin.bitXor a (a / 2 ^ n * 2 ^ n) = a % 2 ^ n := by
  obtain ⟨x, rfl⟩ := Int.eq_ofNat_of_zero_le h0
  have e : (x : Int) / 2 ^ n * 2 ^ n = ((2 ^ n * (x / 2 ^ n) : Nat) : Int) := by rw [← pow_cast, Int.mul_comm]; push_cast; rfl
  rw [e]
  unfold Builtin.bitXor
  rw [bitOr_nat, bitAnd_nat]
  have hr : x % 2 ^ n < 2 ^ n := Nat.mod_lt _ (Nat.two_pow_pos n)
  have hx : x = 2 ^ n * (x / 2 ^ n) ||| x % 2 ^ n := by rw [← Nat.two_pow_add_eq_or_of_lt hr]; exact (Nat.div_add_mod x (2 ^ n)).symm
  have h1 : x ||| 2 ^ n * (x / 2 ^ n) = x := by
    generalize 2 ^ n * (x / 2 ^ n) = y at hx
    generalize x % 2 ^ n = r at hx
    subst hx
    apply Nat.eq_of_testBit_eq; intro i
    simp only [Nat.testBit_or]
    cases y.testBit i <;> cases r.testBit i <;> rfl
  have h2 : x &&& 2 ^ n * (x / 2 ^ n) = 2 ^ n * (x / 2 ^ n) := by
    generalize 2 ^ n * (x / 2 ^ n) = y at hx
    generalize x % 2 ^ n = r at hx
    subst hx
    apply Nat.eq_of_testBit_eq; intro i
    simp only [Nat.testBit_or, Nat.testBit_and]
    cases y.testBit i <;> cases r.testBit i <;> rfl
  rw [h1, h2]
  have h3 := Nat.div_add_mod x (2 ^ n)
  have h4 : (x : Int) % 2 ^ n = ((x % 2 ^ n : Nat) : Int) := by rw [← pow_cast]; rfl
  rw [h4]
  omega
theorem shr {a n : Int} (hn : 0 ≤ n) : a.fdiv (2 ^ n.toNat) = a / 2 ^ n.toNat := fdiv_pos (Int.le_of_lt (two_pos _))
theorem no_pylong {a b : Int} (hb : b ≠ 0) (h : Builtin.Int.intBits a ≤ Builtin.Int.intBits b + 4100) : Builtin.divisionGoesByPylong a b = false := by
  have key : (if a == 0 then 0 else a.natAbs.log2 / 30 + 1) ≤ (if b == 0 then 0 else b.natAbs.log2 / 30 + 1) + 150 := by
    have hb' : (b == 0) = false := by simpa using hb
    unfold Builtin.Int.intBits at h
    by_cases ha : a = 0
    · subst ha; simp
    · have ha' : (a == 0) = false := by simpa using ha
      simp only [hb', ha', Bool.false_eq_true, if_false] at h ⊢
      omega
  show (decide ((if b == 0 then 0 else b.natAbs.log2 / 30 + 1) > 300) && decide ((if a == 0 then 0 else a.natAbs.log2 / 30 + 1) > (if b == 0 then 0 else b.natAbs.log2 / 30 + 1) + 150)) = false
  rw [Bool.and_eq_false_iff]
  right
  exact decide_eq_false (by omega)
theorem bits_bound {a : Int} {k : Nat} (h0 : 0 ≤ a) (h : a < 2 ^ k) : Builtin.Int.intBits a ≤ k := bits_le (natAbs_lt h0 h)
theorem mul_ok {a b : Int} {i j : Nat} (h : a.natAbs < 2 ^ i) (h' : b.natAbs < 2 ^ j) (hij : i + j ≤ 2 ^ 27) : IntMulOk a b := by
  unfold IntMulOk
  have h1 := bits_le h
  have h2 := bits_le h'
  intro hc
  simp only [Bool.and_eq_true, decide_eq_true_eq] at hc
  have h3 := hc.2
  unfold Builtin.Int.intTooBig bitsLine at h3
  simp only [decide_eq_true_eq] at h3
  omega
noncomputable def SubL (m' : Mp) : Mp → Prop
  | [] => True
  | p :: r => m'.lookup p.1 = some p.2 ∧ SubL m' r
theorem SubL.sub {m' : Mp} : ∀ {m : Mp}, SubL m' m → Sub m' m
  | [], _ => fun _ _ e => by cases e
  | (y, c) :: r, h => fun x b e => by
    rw [List.lookup_cons] at e
    cases hb : x == y with
    | true => rw [hb] at e; cases e; rw [beq_iff_eq.mp hb]; exact h.1
    | false => rw [hb] at e; exact SubL.sub h.2 x b e
theorem div_unique' {A q r b : Int} (hb : 0 < b) (h : A = q * b + r) (h0 : 0 ≤ r) (h1 : r < b) : A / b = q ∧ A % b = r := by
  have := Int.ediv_emod_unique hb (a := A) (r := r) (q := q)
  exact this.mpr ⟨by rw [h, Int.mul_comm]; omega, h0, h1⟩

local macro_rules | `(tactic| walk_at "callx") => `(tactic| skip)
local macro_rules | `(tactic| walk_at "methx") => `(tactic| skip)
local macro_rules | `(tactic| walk_at "itx") => `(tactic| first
  | (apply EvI.range' ‹Wd _› <;> walk_at "ev")
  | (apply EvI.rev' ‹Wd _› <;> walk_at "ev")
  | (apply EvI.list <;> walk_at "ev"))
local macro_rules | `(tactic| walk_at "op") => `(tactic| first
  | with_reducible first
    | exact op_add | exact op_sub | exact op_iadd | exact op_isub | exact op_and | exact op_or | exact op_ior | exact op_xor
    | exact op_eq | exact op_ne | exact op_lt | exact op_le | exact op_gt | exact op_ge | exact op_eqs | exact op_isb | exact op_isnotb | exact op_ins | exact op_notins
    | apply op_mul | apply op_lshift | apply op_ilshift | apply op_rshift | apply op_irshift | apply op_mod | apply op_floordiv | apply op_pow | apply op_adds | (apply Op2L.op; apply op_addl) | (apply Op2L.op; apply op_mul1)
  | exact op_add | exact op_sub | apply op_adds | (apply Op2L.op; apply op_addl)
  | skip)
local macro_rules | `(tactic| walk_at "ev") => `(tactic| first
  | ((with_reducible show Ev _ _ _ _ (Expr.Name _ _) _); first | exact Ev.name rfl (Or.inl rfl) | exact Ev.name rfl (Or.inr (Or.inl rfl)) | exact Ev.name rfl (Or.inr (Or.inr rfl)) | exact Ev.lim ‹Wd _› rfl | exact Ev.mark ‹Wd _› rfl)
  | ((with_reducible show Ev _ _ _ _ (Expr.Constant _ _ _) _); first | exact Ev.int | exact Ev.str | exact Ev.bool)
  | ((with_reducible show Ev _ _ _ _ (Expr.BinOp _ _ _ _) _); apply Ev.bin <;> walk_at "ev")
  | ((with_reducible show Ev _ _ _ _ (Expr.Compare _ _ _ _) _); apply Ev.cmp' rfl <;> walk_at "ev")
  | ((with_reducible show Ev _ _ _ _ (Expr.UnaryOp _ _ _) _); apply Ev.un <;> walk_at "ev")
  | ((with_reducible show Ev _ _ _ _ (Expr.Tuple _ _ _) _); apply Ev.tuple' <;> walk_at "ev")
  | ((with_reducible show Ev _ _ _ _ (Expr.List _ _) _); apply Ev.list' <;> walk_at "ev")
  | ((with_reducible show EvL _ _ _ _ (Expr.List _ _) _); apply EvL.list' <;> walk_at "ev")
  | ((with_reducible show Ev _ _ _ _ (Expr.Call (Expr.Name _ _) _ _ _) _); walk_at "callx")
  | ((with_reducible show Ev _ _ _ _ (Expr.Call (Expr.Attribute _ _ _) _ _ _) _); walk_at "methx")
  | ((with_reducible show Ev _ _ _ _ (Expr.Subscript _ (Expr.Slice _ _ _ _) _) _); walk_at "slicex")
  | ((with_reducible show Ev _ _ _ _ (Expr.Subscript _ _ _) _); walk_at "itemx")
  | ((with_reducible show EvP _ _ _ _ none _); exact EvP.none')
  | ((with_reducible show EvP _ _ _ _ (some _) _); apply EvP.some' <;> walk_at "ev")
  | ((with_reducible show EvI _ _ _ _ _ _); walk_at "itx")
  | ((with_reducible show Evs _ _ _ _ [] _); exact Evs.nil)
  | ((with_reducible show Evs _ _ _ _ (_ :: _) _); apply Evs.cons' rfl <;> walk_at "ev")
  | ((with_reducible show NoStar _); repeat (first | exact NoStar.nil | refine NoStar.cons ?_))
  | ((with_reducible show Te _ _ _ _ (Expr.Compare _ _ _ _) _); apply Te.cmp' rfl <;> walk_at "ev")
  | ((with_reducible show Te _ _ _ _ (Expr.UnaryOp UnaryOp.Not _ _) _); apply Te.not <;> walk_at "ev")
  | ((with_reducible show Te _ _ _ _ _ _); apply Te.val' (fun _ => rfl) <;> walk_at "ev")
  | ((with_reducible show Op2 _ _ _ _ _); walk_at "op")
  | ((with_reducible show Op1 _ _ _ _); first | exact op_neg | exact op_inv)
  | ((with_reducible show OpT _ _ _); first | exact t_bool | exact t_int | apply t_str | apply t_list)
  | ((with_reducible show List.length _ ≤ sizeLine); exact Nat.le_of_ble_eq_true rfl)
  | skip)
local macro_rules | `(tactic| walk_at "callx") => `(tactic| first
  | (apply Ev.bi ‹Wd _› rfl (‹Wd _›).divmod (by decide) <;> first | ((with_reducible show Opn _ _ _ _ _); apply call_divmod) | walk_at "ev")
  | (apply Ev.bi ‹Wd _› rfl (‹Wd _›).len (by decide) <;> first | ((with_reducible show Opn _ _ _ _ _); first | apply call_len_l | apply call_len_s) | walk_at "ev")
  | (apply Ev.bi ‹Wd _› rfl (‹Wd _›).abs (by decide) <;> first | ((with_reducible show Opn _ _ _ _ _); exact call_abs) | walk_at "ev")
  | (apply Ev.bi ‹Wd _› rfl (‹Wd _›).chr (by decide) <;> first | ((with_reducible show Opn _ _ _ _ _); apply call_chr) | walk_at "ev"))
local macro_rules | `(tactic| walk_at "methx") => `(tactic| first
  | (apply Ev.meth' meth_bitlen rfl rfl (by decide) NoStar.nil <;> first | ((with_reducible show Opn _ _ _ _ _); exact call_bitlen) | ((with_reducible show KindOf _ _); rfl) | walk_at "ev"))

theorem mem_of_lookupA {α : Type} : ∀ {l : List (Addr × α)} {n : Addr} {c : α}, l.lookup n = some c → (n, c) ∈ l
  | (k, v) :: r, n, c, h => by
    rw [List.lookup_cons] at h
    cases hb : n == k with
    | true => rw [hb] at h; cases h; rw [beq_iff_eq.mp hb]; exact List.mem_cons_self
    | false => rw [hb] at h; exact List.mem_cons_of_mem _ (mem_of_lookupA h)
/-- the surroundings with more that stays -/
noncomputable def Cfg.ext (C : Cfg) (l : List (Addr × Obj)) (ki kd : Option Addr) : Cfg := { C with base := fun b => (C.base b).or (l.lookup b), ki := ki, kd := kd }
section
variable {C : Cfg} {l : List (Addr × Obj)} {ki kd : Option Addr}
theorem ext_base {b : Addr} {o : Obj} (e : C.base b = some o) : (C.ext l ki kd).base b = some o := by show (C.base b).or _ = _; rw [e]; rfl
theorem ext_none {b : Addr} (e : (C.ext l ki kd).base b = none) : C.base b = none ∧ l.lookup b = none := by
  have e : (C.base b).or (l.lookup b) = none := e
  cases h : C.base b with
  | none => rw [h] at e; exact ⟨rfl, e⟩
  | some o => rw [h] at e; cases e
theorem TabAt.weak {h P pos q k k'} (t : TabAt h P pos q k') (hk : k = none ∨ k = k') : TabAt h P pos q k := by
  obtain ⟨ps, e, r⟩ := t
  refine ⟨ps, e, ?_⟩
  rcases r with ⟨r1, r2⟩ | ⟨c', ⟨r1, r2⟩, r3⟩
  · exact .inl ⟨hk.elim id fun z => z.trans r1, r2⟩
  · exact .inr ⟨c', ⟨hk.elim .inl fun z => r1.imp z.trans z.trans, r2⟩, r3⟩
theorem GI.ofExt {h : Heap} (g : GI (C.ext l ki kd) h) (hi : C.ki = none ∨ C.ki = ki) (hd : C.kd = none ∨ C.kd = kd) : GI C h :=
  ⟨fun b o e => g.base b o (ext_base e), g.tabi.weak hi, g.tabd.weak hd⟩
theorem GI.toExt {h : Heap} (g : GI C h) (hl : ∀ b o, l.lookup b = some o → h.get? b = some o) (hi : TabAt h C.ti C.pi "_int2digits.<locals>.inner" ki) (hd : TabAt h C.td C.pd "_digits2int.<locals>.inner" kd) : GI (C.ext l ki kd) h :=
  ⟨fun b o e => by
    have e : (C.base b).or (l.lookup b) = some o := e
    cases h' : C.base b with
    | some o' => rw [h'] at e; cases e; exact g.base _ _ h'
    | none => rw [h'] at e; exact hl b o e, hi, hd⟩
theorem Kp.ofExt {O : List Addr} {h h' : Heap} (k : Kp (C.ext l ki kd) O h h') : Kp C O h h' :=
  ⟨k.live, fun b o hb e => (k.keep b o hb e).imp id fun ⟨n, r⟩ => ⟨(ext_none n).1, r⟩, k.dict⟩
theorem HasDef.ext {d : DefRec} {a : Addr} (hd : HasDef C d a) (hi : C.ki = none ∨ C.ki = ki) (hk : C.kd = none ∨ C.kd = kd) : HasDef (C.ext l ki kd) d a := by
  obtain ⟨o, pm, code, doc, e, h1, h2⟩ := hd.fn
  exact ⟨hd.mg, o, pm, code, doc, ext_base e, h1, fun h g => h2 h (g.ofExt hi hk)⟩
end
/-- a table of a nested def's code -/
structure TabW (C : Cfg) (P : Addr) (pos : Pos) (q : Str) (k : Option Addr) : Prop where
  mem : P ∈ C.T
  get : ∀ h, GI C h → TabAt h P pos q k
  set : ∀ h h' c', GI C h → Heap.ExtBut P h h' → h.get? P = some (tabObj #[]) → h'.get? P = some (tabObj #[rawInt pos.line, rawInt pos.col, .ref c']) → h'.CodeRec (.ref c') q → k = none → C.base P = none → GI C h'
theorem tab_not_code {ps : Array Value} : ¬ Codish (tabObj #[]) := fun ⟨vs, x, t, d, e⟩ => by cases d; simp at e
theorem TabAt.ext {h h' : Heap} {P Q : Addr} {pos : Pos} {q : Str} {k : Option Addr} (t : TabAt h Q pos q k) (hx : Heap.ExtBut P h h') (hP : h.get? P = some (tabObj #[])) (hne : Q ≠ P) : TabAt h' Q pos q k := by
  obtain ⟨ps, e, r⟩ := t
  refine ⟨ps, hx _ _ hne e, r.imp id ?_⟩
  rintro ⟨c', r1, c, o, vs, t, e2, e3, e4, e5⟩
  refine ⟨c', r1, c, o, vs, t, e2, hx c o (fun z => ?_) e3, e4, e5⟩
  rw [z, hP] at e3; cases e3; cases e4; simp at e5
theorem TabW.i {C : Cfg} (hne : C.ti ≠ C.td) : TabW C C.ti C.pi "_int2digits.<locals>.inner" C.ki where
  mem := .head _
  get := fun h g => g.tabi
  set := fun h h' c' g hx hP hP' hc hk hb => ⟨fun b o e => hx b o (fun z => by rw [z, hb] at e; cases e) (g.base b o e), ⟨_, hP', .inr ⟨c', ⟨.inl hk, rfl⟩, hc⟩⟩, g.tabd.ext hx hP (Ne.symm hne)⟩
theorem TabW.d {C : Cfg} (hne : C.ti ≠ C.td) : TabW C C.td C.pd "_digits2int.<locals>.inner" C.kd where
  mem := by simp
  get := fun h g => g.tabd
  set := fun h h' c' g hx hP hP' hc hk hb => ⟨fun b o e => hx b o (fun z => by rw [z, hb] at e; cases e) (g.base b o e), g.tabi.ext hx hP hne, ⟨_, hP', .inr ⟨c', ⟨.inl hk, rfl⟩, hc⟩⟩⟩
theorem def_run {C : Cfg} {P c : Addr} {pos : Pos} {q name : Str} {params : Arguments} {body : List Stmt} {scope : Scope} {env : Env} {clos : List (Str × Addr)} {O : List Addr} {A : Around} {E : Value → Shared → Prop} {s : Shared} {Q : Value → Shared → Prop} {fl : Nat}
    (tw : TabW C P pos q none) (hns : s.heap.Ns mainGlobals C.mg) (hb : s.heap.BuiltinsAt C.mg P) (hcl : closureFor scope env = pure clos) (hge0 : env.globals = mainGlobals) (hcode : env.code = .ref c) (CH : CodeHd s.heap c P) (g : GI C s.heap) (av : Av C O s.heap)
    (h : ∀ c' ctv doc pm h' tk f, Kp C C.T s.heap h' → GI C h' → s.heap.get? f = none → h'.get? f = some (fnMade name q params body scope clos doc pm c' ctv) → h'.CodeRec (.ref c') q → TabAt h' P pos q (some c') → Q (.ref f) { s with heap := h', toks := tk }) :
    wpAny C.M A (makeFunction name q params (.stmts body) scope env [] [] [] pos fl) Q E s := by
  obtain ⟨ps, hP, r⟩ := tw.get _ g
  have hPO := av.1 P tw.mem
  have hPb := (av.2 P hPO).1
  have hgP : mainGlobals ≠ P := fun z => by obtain ⟨o, es, ep, e, d, _⟩ := hns; rw [z, hP] at e; cases e; cases d
  have far : ∀ h' : Heap, s.heap.objs.size ≤ h'.objs.size → s.heap.get? h'.objs.size = none := fun h' hle => by
    cases e : s.heap.get? h'.objs.size with
    | none => rfl
    | some o => exact absurd (Heap.lt_size e) (Nat.not_lt.mpr hle)
  rcases r with ⟨_, rfl⟩ | ⟨c', ⟨_, rfl⟩, hc'⟩
  · refine makeFunction_K (mg := C.mg) hcl hge0 hns hcode CH hP trivial rfl hgP hb fun c' ctv doc h' tk hx hge hlt hrec htb => ?_
    have htb' : h'.get? P = some (tabObj #[rawInt pos.line, rawInt pos.col, .ref c']) := by simpa using htb
    have g' := tw.set _ _ c' g hx hP htb' hrec rfl hPb
    have hsz : s.heap.objs.size ≤ h'.objs.size := Nat.le_trans hge (Nat.le_of_lt hlt)
    have kp1 : Kp C C.T s.heap h' := Kp.extBut hx tw.mem ⟨_, htb'⟩ fun o es ep e d => by rw [hP] at e; cases e; cases d
    refine h c' ctv doc _ _ tk _ (kp1.trans' (.push ..)) (g'.push _) (far _ hsz) (Heap.get?_push_size _ rfl) (hrec.push _) ⟨_, Heap.get?_push_of_some _ htb', .inr ⟨c', ⟨.inr rfl, rfl⟩, hrec.push _⟩⟩
  · refine makeFunction_hit (mg := C.mg) hcl hge0 hns hcode CH hP trivial (cv := .ref c') (by simp [codeAmong, rawInt]) hb fun ctv doc h' tk hk hsz => ?_
    refine h c' ctv doc _ _ tk _ (.of_keeps fun b o e => Heap.get?_push_of_some _ (hk b o e)) (g.keepAll fun b o e => Heap.get?_push_of_some _ (hk b o e)) (far _ hsz) (Heap.get?_push_size _ rfl) ((hc'.keeps hk).push _) ⟨_, Heap.get?_push_of_some _ (hk _ _ hP), .inr ⟨c', ⟨.inr rfl, rfl⟩, (hc'.keeps hk).push _⟩⟩
/-- the cells and the function become what stays -/
theorem FS.seal {C : Cfg} {env : Env} {he h : Heap} {Oc O : List Addr} {m : Mp} {l : List (Addr × Obj)} {ki kd : Option Addr} {fz : Bool} (F : FS C C.T env he Oc O h fz m) (hi : C.ki = none ∨ C.ki = ki) (hd : C.kd = none ∨ C.kd = kd)
    (hl : ∀ b o, (b, o) ∈ l → h.get? b = some o ∧ he.get? b = none ∧ b ≠ env.locals ∧ (∀ xs n, o.data ≠ .seq xs n) ∧ ¬ Fld o) (hT : ∀ b o, (b, o) ∈ l → b ∉ C.T) :
    ∃ O', (∀ b ∈ O', b ∈ O) ∧ FS (C.ext l ki kd) C.T env he Oc O' h true m := by
  have hs : ∀ b ∈ O.filter (fun b => (l.lookup b).isNone), b ∈ O := fun b hb => (List.mem_filter.mp hb).1
  have lk : ∀ b, (l.lookup b).isNone = false → ∃ o, (b, o) ∈ l := fun b hb => by
    cases e : l.lookup b with
    | none => rw [e] at hb; cases hb
    | some o => exact ⟨o, mem_of_lookupA e⟩
  have hin : ∀ {b}, b ∈ O → (∀ o, (b, o) ∉ l) → b ∈ O.filter (fun b => (l.lookup b).isNone) := fun {b} h1 h2 => List.mem_filter.mpr ⟨h1, by
    cases e : (l.lookup b).isNone with
    | true => rfl
    | false => obtain ⟨o, ho⟩ := lk b e; exact absurd ho (h2 o)⟩
  have rp : ∀ {b vs ds}, RepG O h b vs ds → RepG (O.filter (fun b => (l.lookup b).isNone)) h b vs ds := fun r => r.sub fun a ha => .inl (hs a ha)
  have mv : ∀ v b, Bears C C.T he O h v b → Bears (C.ext l ki kd) C.T he (O.filter (fun b => (l.lookup b).isNone)) h v b := by
    intro v b z
    cases b with
    | d y => exact rp z
    | v u => exact z
    | r u y => exact ⟨z.1, rp z.2⟩
    | L a ds => obtain ⟨e, h1, h2, h3, vs, n, h4, h5⟩ := z; exact ⟨e, hin h1 (fun o ho => by obtain ⟨q1, _, _, q2, _⟩ := hl _ _ ho; rw [h4] at q1; cases q1; exact q2 _ _ rfl), h2, h3, vs, n, h4, rp h5⟩
    | ob a P => obtain ⟨e, h1, h2, h3, o, h4, h5, h6⟩ := z; exact ⟨e, hin h1 (fun o' ho => by obtain ⟨q1, _, _, _, q2⟩ := hl _ _ ho; rw [h4] at q1; cases q1; exact q2 h6), h2, h3, o, h4, h5, h6⟩
  obtain ⟨mm, hn, hm⟩ := F.bear
  refine ⟨O.filter (fun b => (l.lookup b).isNone), hs, F.kind, F.glob, F.blt, fun b hb => hin (F.tabs b hb) fun o ho => hT b o ho hb, F.tT, F.tO, fun b hb => ⟨hin (F.sup b hb).1 fun o ho => ?_, (F.sup b hb).2⟩, fun b hb => ?_, ⟨hin F.loc.1 fun o ho => (hl _ _ ho).2.2.1 rfl, F.loc.2⟩,
    fun x c e => ?_, F.apart, ⟨mm, hn, fun x b e => ?_⟩, F.disj, ?_⟩
  · obtain ⟨o', e'⟩ := (F.sup b hb).2
    rw [(hl _ _ ho).2.1] at e'; cases e'
  · obtain ⟨h1, h2⟩ := List.mem_filter.mp hb
    obtain ⟨h3, h4⟩ := F.av b h1
    refine ⟨?_, h4⟩
    show (C.base b).or (l.lookup b) = none
    rw [h3]
    simpa using h2
  · obtain ⟨a1, a2, _⟩ := F.cells x c e
    exact ⟨a1, a2, nofun⟩
  · obtain ⟨q1, q2, v, q3⟩ := hm x b e
    exact ⟨fun z => let ⟨v, e1, e2⟩ := q1 z; ⟨v, e1, mv _ _ e2⟩, fun z => let ⟨c, v, e1, e2, e3⟩ := q2 z; ⟨c, v, e1, e2, mv _ _ e3⟩, v, mv _ _ q3⟩
  · refine ⟨F.ext.live, fun b o hb e => (F.ext.keep b o hb e).imp id fun ⟨n, d, sl, e'⟩ => ⟨?_, d, sl, e'⟩, F.ext.dict⟩
    show (C.base b).or (l.lookup b) = none
    rw [n]
    cases e2 : l.lookup b with
    | none => rfl
    | some o2 => rw [(hl _ _ (mem_of_lookupA e2)).2.1] at e; cases e
/-- a closure's names -/
theorem FS.enterClo {C : Cfg} {T : List Addr} {fd : FuncData} {a : Addr} {s : Shared} {h₀ : Heap} {O : List Addr} {binds : List (Str × Value)} {m mc : Mp} (g : GI C s.heap) (av : Av C O s.heap) (hTC : ∀ b ∈ C.T, b ∈ T) (hTO : ∀ b ∈ T, b ∈ O) (hk : fd.scope.kind = .function) (hg : fd.globals = mainGlobals) (hb : fd.builtins = builtinsNs)
    (hn : h₀.Ns s.heap.objs.size fun x => binds.reverse.lookup x) (keep : ∀ b o, s.heap.get? b = some o → h₀.get? b = some o)
    (hz : Zip (fun v b => b.addr = none ∧ Bears C T s.heap O s.heap v b) binds.reverse m)
    (hcells : ∀ x c, fd.closure.lookup x = some c → c ∉ T ∧ ∃ v, s.heap.IsCell c v) (hap : ∀ x y c, fd.closure.lookup x = some c → fd.closure.lookup y = some c → x = y)
    (hloc : ∀ x v, (x, v) ∈ binds → fd.scope.names.lookup x = some .local)
    (hc : ∀ x b, mc.lookup x = some b → fd.scope.names.lookup x ≠ some .local ∧ ∃ c v, fd.closure.lookup x = some c ∧ s.heap.IsCell c (some v) ∧ Bears C T s.heap O s.heap v b)
    (hd : ∀ x y bx by' a, mc.lookup x = some bx → mc.lookup y = some by' → bx.addr = some a → by'.addr = some a → x = y) :
    FS C T (callEnv fd s.heap.objs.size a) s.heap O (s.heap.objs.size :: O) h₀ true (m ++ mc) := by
  have nofresh : s.heap.objs.size ∉ O := av.fresh
  have mv : ∀ v b, Bears C T s.heap O s.heap v b → Bears C T s.heap (s.heap.objs.size :: O) h₀ v b := fun v b z => z.moved (fun _ q => List.mem_cons_of_mem _ q)
    (fun c o e hc _ => ⟨keep c o e, fun q => (List.mem_cons.mp q).elim (fun z => by rw [z, size_none] at e; cases e) hc⟩) fun c o _ e _ _ => keep c o e
  have hml : ∀ x b, m.lookup x = some b → fd.scope.names.lookup x = some .local ∧ b.addr = none ∧ ∃ v, binds.reverse.lookup x = some v ∧ Bears C T s.heap O s.heap v b := fun x b e => by
    obtain ⟨v, ev, hv⟩ := hz.lookup e
    exact ⟨hloc x v (List.mem_reverse.mp (mem_of_lookup ev)), hv.1, v, ev, hv.2⟩
  obtain ⟨oL, es, ep, eL, dL, _⟩ := id hn
  refine ⟨hk, hg, hb, fun b hb => List.mem_cons_of_mem _ (av.1 b hb), hTC, hTO, fun b hb => ⟨List.mem_cons_of_mem _ hb, (av.2 b hb).2⟩, fun b hb => ?_, ⟨.head _, size_none _⟩, fun x c e => ?_, hap, ⟨_, hn, fun x b e => ?_⟩, fun x y bx by' a e1 e2 a1 a2 => ?_, .of_keeps keep⟩
  · rcases List.mem_cons.mp hb with rfl | hb
    · exact ⟨g.fresh (size_none _), oL, eL⟩
    · obtain ⟨e1, o, e⟩ := av.2 b hb; exact ⟨e1, o, keep _ _ e⟩
  · obtain ⟨h1, v, o, h2, h3⟩ := hcells x c e
    exact ⟨h1, ⟨v, o, keep _ _ h2, h3⟩, nofun⟩
  · rw [lookup_append] at e
    cases hm : m.lookup x with
    | some b' =>
      rw [hm] at e; cases e
      obtain ⟨h1, h2, v, h3, h4⟩ := hml x b hm
      exact ⟨fun _ => ⟨v, h3, mv _ _ h4⟩, fun z => (by
        have : fd.scope.names.lookup x = some .cell ∨ fd.scope.names.lookup x = some .free := z
        rw [h1] at this; rcases this with z | z <;> cases z), v, mv _ _ h4⟩
    | none =>
      rw [hm] at e
      obtain ⟨h1, c, v, h2, ⟨o, h3, h3'⟩, h4⟩ := hc x b e
      exact ⟨fun z => absurd z h1, fun _ => ⟨c, v, h2, ⟨o, keep _ _ h3, h3'⟩, mv _ _ h4⟩, v, mv _ _ h4⟩
  · rw [lookup_append] at e1 e2
    cases hm : m.lookup x with
    | some b' => rw [hm] at e1; cases e1; rw [(hml x bx hm).2.1] at a1; cases a1
    | none =>
      cases hm2 : m.lookup y with
      | some b' => rw [hm2] at e2; cases e2; rw [(hml y by' hm2).2.1] at a2; cases a2
      | none => rw [hm] at e1; rw [hm2] at e2; exact hd x y bx by' a e1 e2 a1 a2

noncomputable def valD (n : Nat) : List Int → Int
  | [] => 0
  | d :: r => d + 2 ^ n * valD n r
theorem valD_append (n : Nat) : ∀ xs ys : List Int, valD n (xs ++ ys) = valD n xs + 2 ^ (n * xs.length) * valD n ys
  | [], ys => by simp [valD]
  | d :: r, ys => by
    rw [List.cons_append, valD, valD, valD_append n r ys, List.length_cons, Nat.mul_succ, nat_pow_add, Int.mul_add, Int.mul_comm (2 ^ (n * r.length)) (2 ^ n), Int.mul_assoc]
    omega
theorem valD_bound (n : Nat) : ∀ xs : List Int, (∀ d ∈ xs, 0 ≤ d ∧ d < 2 ^ n) → 0 ≤ valD n xs ∧ valD n xs < 2 ^ (n * xs.length)
  | [], _ => by simp [valD]
  | d :: r, h => by
    obtain ⟨h1, h2⟩ := h d (.head _)
    obtain ⟨h3, h4⟩ := valD_bound n r fun x hx => h x (.tail _ hx)
    have hp := two_pos n
    rw [valD, List.length_cons, Nat.mul_succ, nat_pow_add]
    have h5 := Int.mul_nonneg (Int.le_of_lt hp) h3
    have h6 : 2 ^ n * valD n r ≤ 2 ^ n * (2 ^ (n * r.length) - 1) := Int.mul_le_mul_of_nonneg_left (by omega) (Int.le_of_lt hp)
    rw [Int.mul_sub, Int.mul_comm (2 ^ n) (2 ^ (n * r.length))] at h6
    omega
/-- what the closure of _digits2int knows -/
structure CloD (C : Cfg) (f cd cn ci c' : Addr) (vd : Value) (n : Nat) (clos : List (Str × Addr)) : Prop where
  st : Sta C
  fn : ∃ o doc pm ctv, (∀ h, GI C h → h.get? f = some o ∧ h.CodeRec (.ref c') "_digits2int.<locals>.inner") ∧ o = fnMade "inner" "_digits2int.<locals>.inner" dInD.params dInD.body dInD.scope clos doc pm c' ctv
  d : clos.lookup (Str.ofString "digits") = some cd ∧ ∀ h, GI C h → h.IsCell cd (some vd)
  n : clos.lookup (Str.ofString "n") = some cn ∧ ∃ t, ∀ h, GI C h → h.IsCell cn (some (.int n t))
  i : clos.lookup (Str.ofString "inner") = some ci ∧ ∀ h, GI C h → h.IsCell ci (some (.ref f))
  only : ∀ x c, clos.lookup x = some c → x = Str.ofString "digits" ∧ c = cd ∨ x = Str.ofString "n" ∧ c = cn ∨ x = Str.ofString "inner" ∧ c = ci
  apart : cd ≠ cn ∧ cd ≠ ci ∧ cn ≠ ci
  noT : cd ∉ C.T ∧ cn ∉ C.T ∧ ci ∉ C.T
noncomputable def SpecD (C : Cfg) (f : Addr) (vd : Value) (n : Nat) (ds : List Int) (j : Nat) : Prop := ∀ L R : Nat, L < R → R ≤ ds.length → R - L ≤ 2 ^ j → ∀ (A : Around) (O : List Addr) (s : Shared) (vs : List Value) (Q E : Value → Shared → Prop), GI C s.heap → Av C O s.heap → Room C (j + 1) A s.heap →
  Rep O s.heap vd (.list (ds.map .int)) → Reps O s.heap vs [.int L, .int R] → Post C O s (.int (valD n ((ds.drop L).take (R - L)))) Q → wpAny C.M A (call (.ref f) vs) Q E s
theorem CloD.isFn {C : Cfg} {f cd cn ci c' : Addr} {vd : Value} {n : Nat} {clos : List (Str × Addr)} (H : CloD C f cd cn ci c' vd n clos) : Fn C (.ref f) := by
  obtain ⟨o, doc, pm, ctv, h1, rfl⟩ := H.fn
  exact .fn f fun h g => ⟨_, _, (h1 h g).1, rfl⟩
/-- the call of the closure from a frame that sees its cells -/
theorem Ev.cloD {C : Cfg} {f : Addr} {vd : Value} {n : Nat} {ds : List Int} {j k : Nat} {env : Env} {m : Mp} {x : Str} {p pos : Pos} {args : List Expr} {L R : Nat} (hf : Fn C (.ref f)) (S : SpecD C f vd n ds j) (hm : m.lookup (Str.ofString "inner") = some (.v (.ref f))) (hx : x = Str.ofString "inner") (hl : Loc env (Str.ofString "inner"))
    (hd : m.lookup (Str.ofString "digits") = some (.r vd (.list (ds.map .int)))) (hns : NoStar args) (ha : Evs C k env m args [.int L, .int R]) (h1 : L < R) (h2 : R ≤ ds.length) (h3 : R - L ≤ 2 ^ j) (hk : j + 1 ≤ k) :
    Ev C k env m (.Call (.Name x p) args [] pos) (.int (valD n ((ds.drop L).take (R - L)))) := by
  subst hx
  intro A T he Oc O s fz Q E g F Rm p'
  refine wpAny_Call_Name_kw (EvB.name hm hl (by decide) (by decide) A T he Oc O s fz _ _ g F Rm fun v tk r => ?_)
  cases r
  refine callWith_fn hf (hns _ _) (ha A T he Oc O _ fz pos _ _ g F Rm fun vs h₁ tk₁ k₁ g₁ r₁ => ⟨g₁, ?_⟩)
  have F1 := F.kp k₁
  obtain ⟨v, rfl, hr⟩ := F1.get hd
  exact S L R h1 h2 h3 A O _ vs Q E g₁ F1.avs ((Rm.kp k₁).le hk) hr r₁ (Post.later (s := s) (tk := tk₁) p' k₁)
theorem cell_val {h : Heap} {c : Addr} {v w : Option Value} (a : h.IsCell c v) (b : h.IsCell c w) : v = w := by
  obtain ⟨o, e, d⟩ := a; obtain ⟨o', e', d'⟩ := b
  rw [e] at e'; cases e'; rw [d] at d'; cases d'; rfl
noncomputable abbrev mD (f : Addr) (vd : Value) (n : Nat) (ds : List Int) (L R : Nat) : Mp := [(Str.ofString "R", .d (.int R)), (Str.ofString "L", .d (.int L)), (Str.ofString "digits", .r vd (.list (ds.map .int))), (Str.ofString "n", .d (.int n)), (Str.ofString "inner", .v (.ref f))]
theorem enterD {C : Cfg} {f cd cn ci c' : Addr} {vd : Value} {n : Nat} {clos : List (Str × Addr)} {ds : List Int} (H : CloD C f cd cn ci c' vd n clos) {k L R : Nat} {r : PyData}
    (body : ∀ L' doc pm ctv, Do C C.T k (callEnv (fnX "inner" "_digits2int.<locals>.inner" dInD.params dInD.body dInD.scope clos .none .none doc pm none (.ref c') ctv) L' f) true dInD.body (mD f vd n ds L R) fun fl _ => fl = .ret r) :
    ∀ (A : Around) (O : List Addr) (s : Shared) (vs : List Value) (Q E : Value → Shared → Prop), GI C s.heap → Av C O s.heap → Room C (k + 1) A s.heap → Rep O s.heap vd (.list (ds.map .int)) → Reps O s.heap vs [.int L, .int R] → Post C O s r Q → wpAny C.M A (call (.ref f) vs) Q E s := by
  intro A O s vs Q E g av Rm hvd rs p
  obtain ⟨o, doc, pm, ctv, h1, rfl⟩ := H.fn
  obtain ⟨ho, hcr⟩ := h1 _ g
  refine rs.two_ fun _ _ r1 r2 => r1.int_ fun t1 => r2.int_ fun t2 => ?_
  · refine wpAny_call (codeAny_call_def (body := dInD.body) (binds := [(Str.ofString "L", .int L t1), (Str.ofString "R", .int R t2)]) (by have := Rm.depth; omega) ho rfl (H.st.ns _ g).2.2 hcr rfl (BindsTo.of_eq rfl) ?_ ?_ (fun h₀ hn keep => ?_))
    · have hnc : ∀ x ∈ dInD.scope.names, x.2 ≠ .cell := by decide
      exact fun x hx => hnc x hx
    · exact mem2_ rfl rfl
    · have F := FS.enterClo (T := C.T) (a := f) (fd := fnX "inner" "_digits2int.<locals>.inner" dInD.params dInD.body dInD.scope clos .none .none doc pm none (.ref c') ctv) (binds := [(Str.ofString "L", .int L t1), (Str.ofString "R", .int R t2)])
        (m := [(Str.ofString "R", .d (.int R)), (Str.ofString "L", .d (.int L))]) (mc := [(Str.ofString "digits", .r vd (.list (ds.map .int))), (Str.ofString "n", .d (.int n)), (Str.ofString "inner", .v (.ref f))])
        g av (fun _ z => z) av.1 rfl rfl rfl hn keep (.cons ⟨rfl, .int _ _⟩ (.cons ⟨rfl, .int _ _⟩ .nil)) (fun x c e => ?_) (fun x y c e1 e2 => ?_) (fun x v hx => ?_) (fun x b e => ?_) (fun x y bx by' a e1 e2 a1 a2 => ?_)
      · have g0 : GI C h₀ := g.keepAll keep
        obtain ⟨oL, es, ep, eL, dL, _⟩ := id hn
        have kd : Kd s.heap h₀ := (Kp.of_keeps (C := C) (O := []) keep).dict
        refine body s.heap.objs.size doc pm ctv _ s.heap O _ _ _ _ g0 F (Rm.deeper kd rfl (L := s.heap.objs.size) rfl (g.fresh (size_none _)) ⟨oL, es, ep, eL, dL⟩) fun f fd m' O₂ h₂ tk₂ q g₂ kd₂ F₂ fb => ?_
        subst q
        cases f <;> first | exact fb.elim | skip
        exact p _ h₂ tk₂ F₂.ext g₂ (fb.sub fun c hc => .inl (F₂.sup c hc).1)
      · obtain ⟨t, hn'⟩ := H.n.2
        rcases H.only x c e with ⟨rfl, rfl⟩ | ⟨rfl, rfl⟩ | ⟨rfl, rfl⟩
        · exact ⟨H.noT.1, _, H.d.2 _ g⟩
        · exact ⟨H.noT.2.1, _, hn' _ g⟩
        · exact ⟨H.noT.2.2, _, H.i.2 _ g⟩
      · rcases H.only x c e1 with ⟨rfl, rfl⟩ | ⟨rfl, rfl⟩ | ⟨rfl, rfl⟩ <;> rcases H.only y _ e2 with ⟨rfl, h⟩ | ⟨rfl, h⟩ | ⟨rfl, h⟩ <;> first
          | rfl
          | exact absurd h H.apart.1 | exact absurd h H.apart.2.1 | exact absurd h H.apart.2.2 | exact absurd h.symm H.apart.1 | exact absurd h.symm H.apart.2.1 | exact absurd h.symm H.apart.2.2
      · exact mem2_ (P := fun y : Str × Value => dInD.scope.names.lookup y.1 = some .local) rfl rfl _ hx
      · obtain ⟨t, hn'⟩ := H.n.2
        revert x b
        refine lookC_ ?_ (lookC_ ?_ (lookC_ ?_ look0_))
        · exact ⟨(by decide : dInD.scope.names.lookup (Str.ofString "digits") ≠ some .local), cd, vd, H.d.1, H.d.2 _ g, rfl, hvd⟩
        · exact ⟨(by decide : dInD.scope.names.lookup (Str.ofString "n") ≠ some .local), cn, _, H.n.1, hn' _ g, .int _ _⟩
        · exact ⟨(by decide : dInD.scope.names.lookup (Str.ofString "inner") ≠ some .local), ci, _, H.i.1, H.i.2 _ g, rfl⟩
      · exact absurd a1 (lookC_ (P := fun _ b => ¬ Bd.addr b = some a) (by intro h; cases h) (lookC_ (by intro h; cases h) (lookC_ (by intro h; cases h) look0_)) _ _ e1)
theorem half_mid {L R M : Nat} (hM : M = (L + R) / 2) : ((L : Int) + R).fdiv (2 ^ (1 : Int).toNat) = (M : Int) := by
  subst hM
  rw [fdiv_pos (by decide)]
  rfl
theorem half_facts {L R M j : Nat} (hM : M = (L + R) / 2) (h1 : L < R) (hR : R ≠ L + 1) (h3 : R - L ≤ 2 ^ (j + 1)) : L < M ∧ M < R ∧ R - M ≤ 2 ^ j ∧ M - L ≤ 2 ^ j ∧ R - M + (M - L) = R - L := by
  rw [Nat.pow_succ] at h3
  omega
theorem half_mul {L M n : Nat} (h : L < M) : (((M : Int) - L) * n) = ((n * (M - L) : Nat) : Int) := by
  rw [← Int.ofNat_sub (Nat.le_of_lt h), Int.mul_comm]; rfl
theorem half_ne {L R : Nat} (hR : R ≠ L + 1) (hb : ((L : Int) + 1 == (R : Int)) = true) : False := hR (Int.ofNat.inj (eq_of_beq hb)).symm
theorem sub_le2 {a b c : Nat} (h : a ≤ c) : a - b ≤ c := Nat.le_trans (Nat.sub_le _ _) h
theorem half_ok {L M n : Nat} (h : L < M) (h1 : M ≤ 100000) (h2 : n ≤ 1000000) : IntMulOk ((M : Int) - L) n := by
  refine mul_ok (i := 64) (j := 64) ?_ ?_ (by decide) <;> omega
theorem specD {C : Cfg} {f cd cn ci c' : Addr} {vd : Value} {n : Nat} {clos : List (Str × Addr)} {ds : List Int} (H : CloD C f cd cn ci c' vd n clos) (hds : ∀ d ∈ ds, 0 ≤ d ∧ d < 2 ^ n) (hsz : n * ds.length ≤ 1000000) (hdl : ds.length ≤ 100000) (hnn : n ≤ 1000000) : ∀ j, SpecD C f vd n ds j := by
  have hone : ∀ L : Nat, L < ds.length → ∃ d, ds[L]? = some d ∧ (ds.drop L).take 1 = [d] := fun L h => ⟨ds[L], List.getElem?_eq_getElem h, by rw [List.drop_eq_getElem_cons h]; rfl⟩
  have single : ∀ (k L R : Nat) L' doc pm ctv (res : PyData), R = L + 1 → R ≤ ds.length → res = .int (valD n ((ds.drop L).take (R - L))) →
      ∀ Q' : Fl → Mp → Prop, Q' (.ret res) (mD f vd n ds L R) → DoS C C.T k (callEnv (fnX "inner" "_digits2int.<locals>.inner" dInD.params dInD.body dInD.scope clos .none .none doc pm none (.ref c') ctv) L' f) true (dInD.body.head (by decide)) (mD f vd n ds L R) Q' := by
    intro k L R L' doc pm ctv res hR hle hres Q' hq
    obtain ⟨d, hd, ht⟩ := hone L (by omega)
    have hval : res = .int d := by
      rw [hres, hR, show L + 1 - L = 1 by omega, ht]
      simp [valD]
    subst hval
    refine DoS.ite (b := ((L : Int) + 1 == (R : Int))) ?_ (fun hb => ?_) (fun hb => absurd (show ((L : Int) + 1 == (R : Int)) = true by simp [hR]) (by rw [hb]; decide))
    · walk_at "ev"
    · refine Do.cons (DoS.ret (d := .int d) ?_ hq)
      refine Ev.item' (xs := ds.map .int) (i := (L : Int)) (j := L) (fun _ _ => rfl) (EvB.evr (u := vd) (EvB.name (x := Str.ofString "digits") rfl (Or.inr (Or.inr rfl)))) ?_ ?_ ?_ ?_
      · walk_at "ev"
      · unfold seqIndex?; simp; omega
      · rw [List.getElem?_map, hd]; rfl
      · rw [List.length_map, sizeLine_eq]; omega
  intro j
  induction j with
  | zero =>
    intro L R h1 h2 h3
    have hR : R = L + 1 := by have : (2 : Nat) ^ 0 = 1 := rfl; omega
    refine enterD H (k := 0) fun L' doc pm ctv => Do.cons (single 0 L R L' doc pm ctv _ hR h2 rfl _ rfl)
  | succ j ih =>
    intro L R h1 h2 h3
    refine enterD H (k := j + 1) fun L' doc pm ctv => ?_
    by_cases hR : R = L + 1
    · exact Do.cons (single (j + 1) L R L' doc pm ctv _ hR h2 rfl _ rfl)
    · obtain ⟨M, hM⟩ : ∃ M, M = (L + R) / 2 := ⟨_, rfl⟩
      have hmid := half_mid hM
      obtain ⟨hLM, hMR, hj1, hj2, hs⟩ := half_facts hM h1 hR h3
      have hMl := Nat.le_trans (Nat.le_of_lt hMR) h2
      have hsplit : (ds.drop L).take (R - L) = (ds.drop L).take (M - L) ++ (ds.drop M).take (R - M) := by
        rw [← hs, Nat.add_comm, List.take_add, List.drop_drop, Nat.add_sub_of_le (Nat.le_of_lt hLM)]
      have hlenM : ((ds.drop L).take (M - L)).length = M - L := by rw [List.length_take, List.length_drop]; exact Nat.min_eq_left (Nat.sub_le_sub_right hMl L)
      have hml := half_mul (n := n) hLM
      have hval : valD n ((ds.drop L).take (R - L)) = valD n ((ds.drop M).take (R - M)) * 2 ^ ((((M : Int) - L) * n)).toNat + valD n ((ds.drop L).take (M - L)) := by
        rw [hsplit, valD_append, hlenM, hml, Int.toNat_natCast, Int.mul_comm (2 ^ (n * (M - L))), Int.add_comm]
      have hmem : ∀ d ∈ (ds.drop M).take (R - M), 0 ≤ d ∧ d < 2 ^ n := fun d hd => hds d (List.mem_of_mem_drop (List.mem_of_mem_take hd))
      obtain ⟨b0, b1⟩ := valD_bound n _ hmem
      have hlenR : ((ds.drop M).take (R - M)).length = R - M := by rw [List.length_take, List.length_drop]; exact Nat.min_eq_left (Nat.sub_le_sub_right h2 M)
      rw [hlenR] at b1
      have hsz1 : n * (R - M) ≤ 1000000 := Nat.le_trans (Nat.mul_le_mul_left n (sub_le2 h2)) hsz
      have hsz2 : n * (M - L) ≤ 1000000 := Nat.le_trans (Nat.mul_le_mul_left n (sub_le2 hMl)) hsz
      refine Do.cons (DoS.ite (b := ((L : Int) + 1 == (R : Int))) ?_ (fun hb => (half_ne hR hb).elim) (fun hb => Do.nil ?_))
      · walk_at "ev"
      dsimp only
      refine Do.cons (DoS.assign ⟨.inl rfl, nofun⟩ (d := .int M) (Ev.cast (d' := .int (((L : Int) + R).fdiv (2 ^ (1 : Int).toNat))) ?_ (by rw [hmid])) ?_)
      · walk_at "ev"
        decide
      dsimp only
      refine Do.cons (DoS.assign ⟨.inl rfl, nofun⟩ (d := .int (((M : Int) - L) * n)) ?_ ?_)
      · walk_at "ev"
        exact half_ok hLM (Nat.le_trans hMl hdl) hnn
      dsimp only
      refine Do.cons (DoS.ret (d := .int (valD n ((ds.drop L).take (R - L)))) ?_ rfl)
      rw [hval]
      refine Ev.bin (Ev.bin (Ev.cloD H.isFn ih rfl rfl (Or.inr (Or.inr rfl)) rfl ?_ ?_ hMR h2 hj1 (Nat.le_refl _)) ?_ (op_lshift (by rw [hml]; exact Int.natCast_nonneg _) ?_)) (Ev.cloD H.isFn ih rfl rfl (Or.inr (Or.inr rfl)) rfl ?_ ?_ hLM hMl hj2 (Nat.le_refl _)) op_add
      · walk_at "ev"
      · walk_at "ev"
      · walk_at "ev"
      · have := bits_bound b0 b1
        rw [hml]; omega
      · walk_at "ev"
      · walk_at "ev"

theorem FS.ext0 {C : Cfg} {T : List Addr} {env : Env} {he h : Heap} {Oc O : List Addr} {m : Mp} {ki kd : Option Addr} {fz : Bool} (F : FS C T env he Oc O h fz m) : FS (C.ext [] ki kd) T env he Oc O h fz m := by
  have hb : ∀ b, C.base b = none → (C.ext [] ki kd).base b = none := fun b e => by show (C.base b).or _ = _; rw [e]; rfl
  have mv : ∀ v b, Bears C T he O h v b → Bears (C.ext [] ki kd) T he O h v b := by
    intro v b z
    cases b <;> exact z
  obtain ⟨mm, hn, hm⟩ := F.bear
  exact ⟨F.kind, F.glob, F.blt, F.tabs, F.tT, F.tO, F.sup, fun b hb' => ⟨hb b (F.av b hb').1, (F.av b hb').2⟩, F.loc, F.cells, F.apart, ⟨mm, hn, fun x b e => by
    obtain ⟨q1, q2, v, q3⟩ := hm x b e
    exact ⟨fun z => let ⟨v, e1, e2⟩ := q1 z; ⟨v, e1, mv _ _ e2⟩, fun z => let ⟨c, v, e1, e2, e3⟩ := q2 z; ⟨c, v, e1, e2, mv _ _ e3⟩, v, mv _ _ q3⟩⟩, F.disj,
    ⟨F.ext.live, fun b o hb' e => (F.ext.keep b o hb' e).imp id fun ⟨n, d, sl, e'⟩ => ⟨hb b n, d, sl, e'⟩, F.ext.dict⟩⟩
/-- a cell's name with its value -/
theorem FS.pin {C : Cfg} {T : List Addr} {env : Env} {he h : Heap} {Oc O : List Addr} {m : Mp} {fz : Bool} {x : Str} {d : PyData} (F : FS C T env he Oc O h fz m) (hk : env.kindOf x = some .cell) (e : m.lookup x = some (.d d)) :
    ∃ c v, env.cells.lookup x = some c ∧ h.IsCell c (some v) ∧ Rep O h v d ∧ FS C T env he Oc O h fz ((x, .r v d) :: m) := by
  obtain ⟨mm, hn, hm⟩ := F.bear
  obtain ⟨q1, q2, _⟩ := hm x _ e
  obtain ⟨c, v, e1, e2, e3⟩ := q2 (.inl hk)
  refine ⟨c, v, e1, e2, e3, { F with bear := ⟨mm, hn, fun y b ey => ?_⟩, disj := disj_cons F.disj (.none rfl) }⟩
  by_cases hy : y = x
  · subst hy; rw [lk_self] at ey; cases ey
    exact ⟨fun z => by rw [hk] at z; (cases z), fun _ => ⟨c, v, e1, e2, rfl, e3⟩, v, rfl, e3⟩
  · rw [lk_ne hy] at ey; exact hm y b ey
theorem closOf_free {env : Env} : ∀ (names : List (Str × NameKind)) (acc : List (Str × Addr)) (x : Str) (c : Addr), (closOf env names acc).lookup x = some c → acc.lookup x = some c ∨ (x, NameKind.free) ∈ names
  | [], acc, x, c, h => .inl h
  | (n, k) :: r, acc, x, c, h => by
    unfold closOf at h
    split at h
    · rename_i hk
      have hk : k = .free := by simpa using hk
      subst hk
      split at h
      · rcases closOf_free r _ x c h with h | h
        · rw [List.lookup_cons] at h
          cases hb : x == n with
          | true => rw [beq_iff_eq.mp hb]; exact .inr (.head _)
          | false => rw [hb] at h; exact .inl h
        · exact .inr (.tail _ h)
      · exact (closOf_free r _ x c h).imp id (.tail _)
    · exact (closOf_free r _ x c h).imp id (.tail _)
theorem base_of_fresh {C : Cfg} {h : Heap} (g : GI C h) {a : Addr} (e : h.get? a = none) : C.base a = none := g.fresh e
theorem HasDef.code {C : Cfg} {d : DefRec} {a : Addr} (hd : HasDef C d a) {c : Addr} (hf : ∃ o pm doc, C.base a = some o ∧ o.data = .func (d.data pm (.ref c) doc)) : ∃ o pm doc, C.base a = some o ∧ o.data = .func (d.data pm (.ref c) doc) ∧ ∀ h, GI C h → h.CodeRec (.ref c) d.name := by
  obtain ⟨o, pm, code, doc, e, h1, h2⟩ := hd.fn
  obtain ⟨o', pm', doc', e', h1'⟩ := hf
  rw [e] at e'; cases e'
  rw [h1] at h1'
  have h2' : d.data pm code doc = d.data pm' (.ref c) doc' := by injection h1'
  have : code = .ref c := congrArg FuncData.code h2'
  exact ⟨o, pm, doc, e, this ▸ h1, this ▸ h2⟩
theorem Sta.ext {C : Cfg} {l : List (Addr × Obj)} {ki kd : Option Addr} (st : Sta C) (hi : C.ki = none ∨ C.ki = ki) (hd : C.kd = none ∨ C.kd = kd) : Sta (C.ext l ki kd) := ⟨fun h g => st.ns h (g.ofExt hi hd)⟩
theorem Room.ofExt {C : Cfg} {l : List (Addr × Obj)} {ki kd : Option Addr} {k : Nat} {A : Around} {h : Heap} (R : Room C k A h) (hl : ∀ b o, (b, o) ∈ l → ∀ es ep, o.data ≠ .dict es ep) (hh : ∀ b o, (b, o) ∈ l → h.get? b = some o) : Room (C.ext l ki kd) k A h := by
  obtain ⟨outer, e, q⟩ := R.frames
  refine ⟨R.handled, R.depth, R.units, outer, e, fun env he => ⟨(q env he).1, ?_⟩⟩
  obtain ⟨L, o, es, ep, f1, f2, f3, f4⟩ := (q env he).2
  refine ⟨L, o, es, ep, f1, ?_, f3, f4⟩
  show (C.base L).or (l.lookup L) = none
  rw [f2]
  cases e2 : l.lookup L with
  | none => rfl
  | some o2 =>
    have hm := mem_of_lookupA e2
    have e3 := hh _ _ hm
    rw [f3] at e3; cases e3
    exact absurd f4 (hl _ _ hm _ _)
theorem Ev.call_len_cast {C : Cfg} {k : Nat} {ds : List Int} (h : (ds.map PyData.int).length ≤ sizeLine) : Opn C k (fun vs => PySem.call (.builtin "len") vs) [.list (ds.map .int)] (.int ds.length) := by
  have := call_len_l (C := C) (k := k) h
  rw [List.length_map] at this; exact this
/-- _digits2int -/
theorem d2i_spec {C : Cfg} (W : Wd C) {n : Nat} {ds : List Int} {j : Nat} (hds : ∀ d ∈ ds, 0 ≤ d ∧ d < 2 ^ n) (hsz : n * ds.length ≤ 1000000) (hdl : ds.length ≤ 100000) (hnn : n ≤ 1000000) (hj : ds.length ≤ 2 ^ j) :
    Opn C (j + 2) (fun vs => PySem.call (.ref W.aD2I) vs) [.list (ds.map .int), .int n] (.int (valD n ds)) := by
  intro A O s vs Q E g av R rs p
  obtain ⟨o, pm, doc, e, hdat, hcr⟩ := W.hD2I.code W.fD
  refine rs.two_ fun v1 v2 r1 r2 => ?_
  refine wpAny_call (codeAny_call_cells (body := dD2I.body) (binds := [(Str.ofString "digits", v1), (Str.ofString "n", v2)]) (by have := R.depth; omega) (g.base _ _ e) hdat (W.st.ns _ g).2.2 (hcr _ g) rfl rfl rfl ?_ (fun s₁ x => ?_))
  · exact mem2_ (.inr ⟨rfl, rfl⟩) (.inr ⟨rfl, rfl⟩)
  obtain ⟨O', F, g1, kd⟩ := FS.enter (m := [(Str.ofString "n", .d (.int n)), (Str.ofString "digits", .d (.list (ds.map .int)))]) g av (fd := dD2I.data pm (.ref W.cD) doc) (a := W.aD2I) rfl rfl rfl (mem2_ (.inr ⟨rfl, rfl⟩) (.inr ⟨rfl, rfl⟩)) x (.cons ⟨rfl, r2⟩ (.cons ⟨rfl, r1⟩ .nil))
  obtain ⟨h', tk, es⟩ := x.toInCall.same
  subst es
  obtain ⟨oL, esL, epL, eL, dL, _⟩ := id x.toInCall.ns
  have R' : Room C (j + 1) (A.deeper (callEnvC (dD2I.data pm (.ref W.cD) doc) s.heap.objs.size W.aD2I)) h' := R.deeper kd rfl (L := s.heap.objs.size) rfl (g.fresh (size_none _)) ⟨oL, esL, epL, eL, dL⟩
  obtain ⟨env, henv⟩ : ∃ env, env = callEnvC (dD2I.data pm (.ref W.cD) doc) s.heap.objs.size W.aD2I := ⟨_, rfl⟩
  have hkd : env.kindOf (Str.ofString "digits") = some .cell := by rw [henv]; rfl
  have hkn : env.kindOf (Str.ofString "n") = some .cell := by rw [henv]; rfl
  have hki : env.kindOf (Str.ofString "inner") = some .cell := by rw [henv]; rfl
  have hok : compOk dInD.scope env = true := by rw [henv]; rfl
  have hci : (env.cells.lookup (Str.ofString "inner")).isSome = true := by rw [henv]; rfl
  have hqual : qualnameIn env (Str.ofString "inner") (Str.ofString "inner") = Str.ofString "_digits2int.<locals>.inner" := by rw [henv]; rfl
  have hlen : env.kindOf (Str.ofString "len") = some .globalImplicit := by rw [henv]; rfl
  have hglob : env.globals = mainGlobals := by rw [henv]; rfl
  have hcode : env.code = .ref W.cD := by rw [henv]; rfl
  have hinter : interactive env = false := by rw [henv]; rfl
  have hnames : ∀ y c, (closOf env dInD.scope.names []).lookup y = some c → y = Str.ofString "digits" ∨ y = Str.ofString "n" ∨ y = Str.ofString "inner" := fun y c e => by
    have hm := (closOf_free _ _ y c e).resolve_left (by intro z; cases z)
    have hall : ∀ q ∈ dInD.scope.names, q.2 = NameKind.free → q.1 = Str.ofString "digits" ∨ q.1 = Str.ofString "n" ∨ q.1 = Str.ofString "inner" := by decide
    exact hall _ hm rfl
  rw [← henv] at F R' ⊢
  have hbody : dD2I.body = .FunctionDef (Str.ofString "inner") dInD.params dInD.body [] none [] dInD.scope none (Str.ofString "inner") dInD.pos :: dD2I.body.drop 1 := rfl
  rw [hbody]
  have tw : TabW C C.td dInD.pos "_digits2int.<locals>.inner" none := by
    have := TabW.d (C := C) W.ne
    rw [W.posD, W.kd0] at this; exact this
  refine wpAny_execs_cons (nestDef_K rfl rfl rfl ?_)
  rw [hqual]
  refine def_run (O := O') tw (W.st.ns _ g1).1 (W.blt _ g1 _ tw.mem) (clos_eq hok) hglob hcode (W.codeD _ g1) g1 F.avs fun c' ctv doc' pm' h₂ tk₂ f kp₂ g₂ hf hfo hrec htab => ?_
  -- the table's code is known from here on
  have g₂' : GI (C.ext [] C.ki (some c')) h₂ := g₂.toExt (fun b o e => by cases e) (g₂.tabi.weak (.inr rfl)) (by rw [W.posD]; exact htab)
  have F₂ : FS (C.ext [] C.ki (some c')) C.T env s.heap O O' h₂ false [(Str.ofString "n", .d (.int n)), (Str.ofString "digits", .d (.list (ds.map .int)))] := (F.kp kp₂).ext0
  have hfO : f ∉ O' := fun z => by obtain ⟨_, o, e⟩ := F.av f z; rw [show h'.get? f = none from hf] at e; cases e
  refine F₂.bind (C := C.ext [] C.ki (some c')) (s := { s with heap := h₂, toks := tk₂ }) (b := .v (.ref f)) g₂' (.inr hki) (fun _ => ⟨rfl, hci⟩) rfl (.none rfl) fun h₃ tk₃ kp₃ g₃ F₃ => ?_
  have hfo₃ : h₃.get? f = some (fnMade "inner" "_digits2int.<locals>.inner" dInD.params dInD.body dInD.scope (closOf env dInD.scope.names []) doc' pm' c' ctv) := kp₃.seq hfO hfo (fun es ep z => by cases z)
  have hfh : s.heap.get? f = none := by
    cases e : s.heap.get? f with
    | none => rfl
    | some o => have := x.toInCall.keep _ _ e; rw [show h'.get? f = none from hf] at this; cases this
  obtain ⟨cd, vd, ed, id', rd, F₄⟩ := F₃.pin hkd rfl
  obtain ⟨cn, vn, en, in', rn, F4n⟩ := F₃.pin hkn rfl
  obtain ⟨mm, _, hm⟩ := F₃.bear
  obtain ⟨ci, vi, ei, ii', ri⟩ := (hm (Str.ofString "inner") _ rfl).2.1 (.inl hki)
  cases ri
  cases rn
  rename_i tn
  obtain ⟨od, od1, od2⟩ := id'
  obtain ⟨on, on1, on2⟩ := in'
  obtain ⟨oi, oi1, oi2⟩ := ii'
  have cellO : ∀ y c, env.cells.lookup y = some c → c ∉ C.T ∧ s.heap.get? c = none := fun y c e => ⟨(F.cells y c e).1, ((F.cells y c e).2.2 rfl).2⟩
  have ne_loc : ∀ (c : Addr) (o : Obj) v, h₃.get? c = some o → o.data = .cell v → c ≠ env.locals := fun c o v e d z => by
    obtain ⟨mm, ⟨oL, es, ep, eL, dL, _⟩, _⟩ := F₃.bear
    rw [z, eL] at e; cases e; rw [dL] at d; cases d
  have f_loc : f ≠ env.locals := fun z => hfO (z ▸ F.loc.1)
  obtain ⟨l, hl'⟩ : ∃ l : List (Addr × Obj), l = [(f, fnMade "inner" "_digits2int.<locals>.inner" dInD.params dInD.body dInD.scope (closOf env dInD.scope.names []) doc' pm' c' ctv), (cd, od), (cn, on), (ci, oi)] := ⟨_, rfl⟩
  have lmem : ∀ b o, (b, o) ∈ l → h₃.get? b = some o ∧ s.heap.get? b = none ∧ b ≠ env.locals ∧ (∀ xs n, o.data ≠ .seq xs n) ∧ ¬ Fld o := by
    intro b o hbo
    rw [hl'] at hbo
    simp only [List.mem_cons, Prod.mk.injEq, List.not_mem_nil, or_false] at hbo
    rcases hbo with ⟨rfl, rfl⟩ | ⟨rfl, rfl⟩ | ⟨rfl, rfl⟩ | ⟨rfl, rfl⟩
    · exact ⟨hfo₃, hfh, f_loc, (fun _ _ z => by cases z), fun ⟨_, z, _⟩ => by cases z⟩
    · exact ⟨od1, (cellO _ _ ed).2, ne_loc _ _ _ od1 od2, (fun _ _ z => by rw [od2] at z; cases z), fun ⟨_, z, _⟩ => by rw [od2] at z; cases z⟩
    · exact ⟨on1, (cellO _ _ en).2, ne_loc _ _ _ on1 on2, (fun _ _ z => by rw [on2] at z; cases z), fun ⟨_, z, _⟩ => by rw [on2] at z; cases z⟩
    · exact ⟨oi1, (cellO _ _ ei).2, ne_loc _ _ _ oi1 oi2, (fun _ _ z => by rw [oi2] at z; cases z), fun ⟨_, z, _⟩ => by rw [oi2] at z; cases z⟩
  have lT : ∀ b o, (b, o) ∈ l → b ∉ C.T := by
    intro b o hbo z
    obtain ⟨_, e0, _⟩ := lmem b o hbo
    obtain ⟨_, o2, e2⟩ := av.2 b (av.1 b z)
    rw [e0] at e2; cases e2
  obtain ⟨O₄, _, F₅⟩ := FS.seal (C := C.ext [] C.ki (some c')) (l := l) (ki := C.ki) (kd := some c') F₄ (.inr rfl) (.inr rfl) lmem lT
  have hdict : ∀ b o, (b, o) ∈ l → ∀ es ep, o.data ≠ .dict es ep := by
    intro b o hbo es ep z
    rw [hl'] at hbo
    simp only [List.mem_cons, Prod.mk.injEq, List.not_mem_nil, or_false] at hbo
    rcases hbo with ⟨rfl, rfl⟩ | ⟨rfl, rfl⟩ | ⟨rfl, rfl⟩ | ⟨rfl, rfl⟩
    · cases z
    · rw [od2] at z; cases z
    · rw [on2] at z; cases z
    · rw [oi2] at z; cases z
  have g₅ : GI ((C.ext [] C.ki (some c')).ext l C.ki (some c')) h₃ := g₃.toExt (fun b o e => (lmem b o (mem_of_lookupA e)).1) g₃.tabi g₃.tabd
  have lookl : ∀ b o, (b, o) ∈ l → ∀ h, GI ((C.ext [] C.ki (some c')).ext l C.ki (some c')) h → h.get? b = some o := by
    intro b o hbo h gh
    have e1 := (lmem b o hbo).1
    refine gh.base b o ?_
    show ((C.base b).or none).or (l.lookup b) = some o
    have hb0 : C.base b = none := g.fresh (lmem b o hbo).2.1
    rw [hb0]
    have : (l.lookup b).isSome = true := by
      cases hq : l.lookup b with
      | some _ => rfl
      | none =>
        exfalso
        have hm' : ∀ (l : List (Addr × Obj)), (b, o) ∈ l → l.lookup b ≠ none := by
          intro l
          induction l with
          | nil => intro hm _; cases hm
          | cons q r ih =>
            obtain ⟨q1, q2⟩ := q
            intro hm hlk
            rw [List.lookup_cons] at hlk
            cases hbq : b == q1 with
            | true => rw [hbq] at hlk; cases hlk
            | false =>
              rw [hbq] at hlk
              rcases List.mem_cons.mp hm with e | hm
              · cases e; simp at hbq
              · exact ih hm hlk
        exact hm' l hbo hq
    obtain ⟨o', ho'⟩ := Option.isSome_iff_exists.mp this
    have e2 := (lmem b o' (mem_of_lookupA ho')).1
    rw [e1] at e2; cases e2
    rw [ho']; rfl
  have st₅ : Sta ((C.ext [] C.ki (some c')).ext l C.ki (some c')) := (W.st.ext (.inr rfl) (.inl W.kd0)).ext (.inr rfl) (.inr rfl)
  have cs : ∀ y c, (closOf env dInD.scope.names []).lookup y = some c → env.cells.lookup y = some c := fun y c e => closOf_sub _ _ y c (fun _ _ z => by cases z) e
  have cget : ∀ y c, env.cells.lookup y = some c → (y, NameKind.free) ∈ dInD.scope.names → (closOf env dInD.scope.names []).lookup y = some c := fun y c e hm' => by
    obtain ⟨c2, h2⟩ := Option.isSome_iff_exists.mp (closOf_some (env := env) dInD.scope.names [] y (.inr ⟨.free, hm', rfl, by rw [e]; rfl⟩))
    rw [h2]; have := cs _ _ h2; rw [e] at this; exact this.symm
  have H : CloD ((C.ext [] C.ki (some c')).ext l C.ki (some c')) f cd cn ci c' vd n (closOf env dInD.scope.names []) := {
    st := st₅
    fn := ⟨_, doc', pm', ctv, fun h gh => ⟨lookl f _ (by rw [hl']; exact .head _) h gh, by
      obtain ⟨ps, hps, hq | ⟨c2, ⟨hq1, hq2⟩, hq3⟩⟩ := gh.tabd
      · exact absurd hq.1 (by intro z; cases z)
      · have : c' = c2 := by rcases hq1 with z | z <;> cases z; rfl
        subst this; exact hq3⟩, rfl⟩
    d := ⟨cget _ _ ed (by decide), fun h gh => ⟨od, lookl cd od (by rw [hl']; simp) h gh, od2⟩⟩
    n := ⟨cget _ _ en (by decide), tn, fun h gh => ⟨on, lookl cn on (by rw [hl']; simp) h gh, on2⟩⟩
    i := ⟨cget _ _ ei (by decide), fun h gh => ⟨oi, lookl ci oi (by rw [hl']; simp) h gh, oi2⟩⟩
    only := fun y c e => by
      have e2 := cs _ _ e
      rcases hnames y c e with rfl | rfl | rfl
      · rw [ed] at e2; cases e2; exact .inl ⟨rfl, rfl⟩
      · rw [en] at e2; cases e2; exact .inr (.inl ⟨rfl, rfl⟩)
      · rw [ei] at e2; cases e2; exact .inr (.inr ⟨rfl, rfl⟩)
    apart := ⟨fun z => absurd (F.apart _ _ cd ed (z ▸ en)) (by decide), fun z => absurd (F.apart _ _ cd ed (z ▸ ei)) (by decide), fun z => absurd (F.apart _ _ cn en (z ▸ ei)) (by decide)⟩
    noT := ⟨(cellO _ _ ed).1, (cellO _ _ en).1, (cellO _ _ ei).1⟩ }
  have hz : ∀ d ∈ ds, 0 ≤ d ∧ d < 2 ^ n := hds
  have R₅ : Room ((C.ext [] C.ki (some c')).ext l C.ki (some c')) (j + 1) (A.deeper env) h₃ := by
    have R1 : Room C (j + 1) (A.deeper env) h₃ := R'.kd (Kd.trans kp₂.dict kp₃.dict)
    exact (R1.ofExt (l := []) (fun _ _ z => by cases z) (fun _ _ z => by cases z)).ofExt hdict fun b o z => (lmem b o z).1
  have body : Do ((C.ext [] C.ki (some c')).ext l C.ki (some c')) C.T (j + 1) env true (dD2I.body.drop 1) [(Str.ofString "digits", .r vd (.list (ds.map .int))), (Str.ofString "inner", .v (.ref f)), (Str.ofString "n", .d (.int n))] fun fl _ => fl = .ret (.int (valD n ds)) := by
    have hL : ∀ y, env.kindOf y = some .cell → Loc env y := fun y z => .inr (.inl z)
    have evd : Ev ((C.ext [] C.ki (some c')).ext l C.ki (some c')) (j + 1) env [(Str.ofString "digits", .r vd (.list (ds.map .int))), (Str.ofString "inner", .v (.ref f)), (Str.ofString "n", .d (.int n))] (.Name (Str.ofString "digits") default) (.list (ds.map .int)) := EvB.evr (u := vd) (EvB.name rfl (hL _ hkd))
    refine Do.cons (DoS.ret ?_ rfl)
    refine Ev.ifexp (b := !(ds.map PyData.int).isEmpty) (Te.val' (fun _ => rfl) (EvB.evr (u := vd) (EvB.name (x := Str.ofString "digits") rfl (hL _ hkd))) (t_list (by rw [List.length_map, sizeLine_eq]; omega))) (fun hb => ?_) (fun hb => ?_)
    · have hne : 0 < ds.length := by
        cases ds with
        | nil => simp at hb
        | cons => simp
      refine Ev.cast (d' := .int (valD n ((ds.drop 0).take (ds.length - 0)))) (Ev.cloD (R := ds.length) (L := 0) H.isFn (specD H hds hsz hdl hnn j) rfl rfl (hL _ hki) rfl (.cons (.cons .nil)) ?_ hne (Nat.le_refl _) (by omega) (Nat.le_refl _)) (by rw [List.drop_zero, Nat.sub_zero, List.take_length])
      refine Evs.cons' rfl Ev.int (Evs.cons' rfl ?_ .nil)
      refine Ev.call (x := Str.ofString "len") (ds := [.list (ds.map .int)]) (EvB.glob st₅ hlen W.len) (.bi "len") (Evs.cons' rfl (EvB.evr (u := vd) (EvB.name (x := Str.ofString "digits") rfl (hL _ hkd))) .nil) (.cons .nil) (Ev.call_len_cast ?_) (k' := 0) (Nat.zero_le _)
      rw [List.length_map, sizeLine_eq]; omega
    · have he : ds = [] := by
        cases ds with
        | nil => rfl
        | cons => simp at hb
      subst he
      exact Ev.int
  refine body _ s.heap O O₄ _ _ _ g₅ (F₅.sub (SubL.sub (by repeat (first | exact trivial | refine ⟨rfl, ?_⟩)))) R₅ fun fl fd m' O₆ h₆ tk₆ q g₆ kd₆ F₆ fb => ?_
  subst q
  cases fl <;> first | exact fb.elim | skip
  exact p _ h₆ tk₆ F₆.ext.ofExt.ofExt ((g₆.ofExt (.inr rfl) (.inr rfl)).ofExt (.inr rfl) (.inl W.kd0)) (fb.sub fun c hc => .inl (F₆.sup c hc).1)

noncomputable def digs (n : Nat) : Nat → Int → List Int
  | 0, _ => []
  | k + 1, x => x % 2 ^ n :: digs n k (x / 2 ^ n)
theorem digs_length (n : Nat) : ∀ (k : Nat) (x : Int), (digs n k x).length = k
  | 0, _ => rfl
  | k + 1, x => by rw [digs, List.length_cons, digs_length n k]
theorem digs_split (n : Nat) : ∀ (p q : Nat) (x : Int), digs n (p + q) x = digs n p (x % 2 ^ (n * p)) ++ digs n q (x / 2 ^ (n * p))
  | 0, q, x => by simp [digs]
  | p + 1, q, x => by
    rw [show p + 1 + q = (p + q) + 1 by omega, digs, digs, digs_split n p q, List.cons_append]
    have hp := two_pos n
    have hq := two_pos (n * p)
    have e : (2 : Int) ^ (n * (p + 1)) = 2 ^ n * 2 ^ (n * p) := by rw [Nat.mul_succ, nat_pow_add, Int.mul_comm]
    rw [e]
    have e1 : x / 2 ^ n / 2 ^ (n * p) = x / (2 ^ n * 2 ^ (n * p)) := Int.ediv_ediv_of_nonneg (Int.le_of_lt hp)
    have e2 : x % (2 ^ n * 2 ^ (n * p)) % 2 ^ n = x % 2 ^ n := Int.emod_emod_of_dvd x (Int.dvd_mul_right _ _)
    have e3 : x % (2 ^ n * 2 ^ (n * p)) / 2 ^ n = x / 2 ^ n % 2 ^ (n * p) := by
      have h1 := Int.mul_ediv_add_emod x (2 ^ n * 2 ^ (n * p))
      have h2 := Int.mul_ediv_add_emod (x / 2 ^ n) (2 ^ (n * p))
      have h3 := Int.mul_ediv_add_emod x (2 ^ n)
      rw [← e1] at h1
      have h4 : x % (2 ^ n * 2 ^ (n * p)) = (x / 2 ^ n % 2 ^ (n * p)) * 2 ^ n + x % 2 ^ n := by
        have h5 : 2 ^ n * (x / 2 ^ n) = 2 ^ n * (2 ^ (n * p) * (x / 2 ^ n / 2 ^ (n * p))) + 2 ^ n * (x / 2 ^ n % 2 ^ (n * p)) := by rw [← Int.mul_add, h2]
        rw [← Int.mul_assoc] at h5
        have h6 := Int.mul_comm (2 ^ n) (x / 2 ^ n % 2 ^ (n * p))
        omega
      exact (div_unique' hp h4 (Int.emod_nonneg _ (Int.ne_of_gt hp)) (Int.emod_lt_of_pos _ hp)).1
    rw [e1, e2, e3]
theorem FS.kpOwn {C : Cfg} {T : List Addr} {env : Env} {he h h' : Heap} {Oc O : List Addr} {m : Mp} {fz : Bool} {x : Str} {a : Addr} {ds ds' : List PyData} {vs' : List Value} (F : FS C T env he Oc O h fz m) (k : Kp C (a :: C.T) h h') (e : m.lookup x = some (.L a ds))
    (hl : h'.PlainList a vs'.toArray) (r : Reps O h' vs' ds') : FS C T env he Oc O h' fz ((x, .L a ds') :: m) := by
  obtain ⟨mm, hn, hm⟩ := F.bear
  obtain ⟨_, _, v, hv, hO, hT, hH, vs, n, ho, hr⟩ := hm x _ e
  have hTO : ∀ b ∈ a :: C.T, b ∈ O := fun b hb => (List.mem_cons.mp hb).elim (fun z => z ▸ hO) (F.tabs b)
  have mv : ∀ v b, b.addr ≠ some a → Bears C T he O h v b → Bears C T he O h' v b := fun v b hb z => z.moved (fun _ q => q)
    (fun c o e hc ⟨xs, n, hd⟩ => ⟨k.seq (fun q => hc (hTO c q)) e (fun es ep q => by rw [hd] at q; cases q), hc⟩)
    fun c o hc e hcT hf => k.seq (fun q => (List.mem_cons.mp q).elim (fun z => hb (z ▸ hc)) hcT) e fun es ep q => by rcases hf with ⟨vs, hd, _⟩ | ⟨xs, n, hd⟩ <;> rw [hd] at q <;> cases q
  have own : Bears C T he O h' (.ref a) (.L a ds') := let ⟨n', e'⟩ := hl; ⟨rfl, hO, hT, hH, vs', n', e', r⟩
  obtain ⟨oL, es, ep, eL, dL, _⟩ := id hn
  have hLa : env.locals ≠ a := fun z => by rw [z, ho] at eL; cases eL; cases dL
  have cl : ∀ c v, c ∉ T → h.IsCell c v → h'.IsCell c v := fun c v hc z => k.cell (fun q => (List.mem_cons.mp q).elim (fun z' => by
    obtain ⟨o, e, d⟩ := z; rw [z', ho] at e; cases e; cases d) fun q => hc (F.tT _ q)) z
  refine ⟨F.kind, F.glob, F.blt, F.tabs, F.tT, F.tO, F.sup, fun b hb => ⟨(F.av b hb).1, let ⟨o, e⟩ := (F.av b hb).2; k.live b o e⟩, F.loc, fun y c ec => let ⟨a1, ⟨v, a2⟩, a3⟩ := F.cells y c ec; ⟨a1, ⟨v, cl c v a1 a2⟩, a3⟩, F.apart,
    ⟨mm, k.ns (fun q => (List.mem_cons.mp q).elim hLa fun q => F.locT (F.tT _ q)) hn, fun y b ey => ?_⟩, disj_cons F.disj fun y by' a' hy e1 e2 e3 => ?_, F.ext.trans k fun b hb => ?_⟩
  · by_cases hy : y = x
    · subst hy; rw [lk_self] at ey; cases ey
      obtain ⟨q1, q2, _⟩ := hm y _ e
      exact ⟨fun hl => let ⟨v, e1, e2⟩ := q1 hl; ⟨v, e1, e2.1 ▸ own⟩, fun hl => let ⟨c, v, e1, e2, e3⟩ := q2 hl; ⟨c, v, e1, cl c _ (F.cells y c e1).1 e2, e3.1 ▸ own⟩, _, own⟩
    · rw [lk_ne hy] at ey
      obtain ⟨q1, q2, v, q3⟩ := hm y b ey
      have hb : b.addr ≠ some a := fun z => hy (F.disj y x b _ a ey e z rfl)
      exact ⟨fun hl => let ⟨v, e1, e2⟩ := q1 hl; ⟨v, e1, mv _ _ hb e2⟩, fun hl => let ⟨c, v, e1, e2, e3⟩ := q2 hl; ⟨c, v, e1, cl c _ (F.cells y c e1).1 e2, mv _ _ hb e3⟩, v, mv _ _ hb q3⟩
  · cases e3; exact hy (F.disj y x by' _ a e1 e e2 rfl)
  · rcases List.mem_cons.mp hb with rfl | hb
    · exact hH.symm
    · exact .inl (F.tT b hb)
/-- what the closure of _int2digits knows -/
structure CloI (C : Cfg) (f ca cn ci c' a : Addr) (n : Nat) (clos : List (Str × Addr)) : Prop where
  st : Sta C
  fn : ∃ o doc pm ctv, (∀ h, GI C h → h.get? f = some o ∧ h.CodeRec (.ref c') "_int2digits.<locals>.inner") ∧ o = fnMade "inner" "_int2digits.<locals>.inner" dInI.params dInI.body dInI.scope clos doc pm c' ctv
  d : clos.lookup (Str.ofString "a_digits") = some ca ∧ ∀ h, GI C h → h.IsCell ca (some (.ref a))
  n : clos.lookup (Str.ofString "n") = some cn ∧ ∃ t, ∀ h, GI C h → h.IsCell cn (some (.int n t))
  i : clos.lookup (Str.ofString "inner") = some ci ∧ ∀ h, GI C h → h.IsCell ci (some (.ref f))
  only : ∀ x c, clos.lookup x = some c → x = Str.ofString "a_digits" ∧ c = ca ∨ x = Str.ofString "n" ∧ c = cn ∨ x = Str.ofString "inner" ∧ c = ci
  apart : ca ≠ cn ∧ ca ≠ ci ∧ cn ≠ ci
  noT : ca ∉ C.T ∧ cn ∉ C.T ∧ ci ∉ C.T
  noA : ca ≠ a ∧ cn ≠ a ∧ ci ≠ a
noncomputable def put (ds : List Int) (L R : Nat) (xs : List Int) : List Int := ds.take L ++ xs ++ ds.drop R
noncomputable def SpecI (C : Cfg) (f a : Addr) (n len j : Nat) : Prop := ∀ (L R : Nat) (x : Int), L < R → R ≤ len → R - L ≤ 2 ^ j → 0 ≤ x → x < 2 ^ (n * (R - L)) → ∀ (A : Around) (O : List Addr) (s : Shared) (vs ws : List Value) (ds : List Int) (Q E : Value → Shared → Prop), GI C s.heap → Av C O s.heap → a ∈ O → a ∉ C.T → ds.length = len →
  s.heap.PlainList a ws.toArray → Reps O s.heap ws (ds.map .int) → Room C (j + 1) A s.heap → Reps O s.heap vs [.int x, .int L, .int R] →
  (∀ h' tk ws', Kp C (a :: C.T) s.heap h' → GI C h' → h'.PlainList a (List.toArray ws') → Reps O h' ws' ((put ds L R (digs n (R - L) x)).map .int) → Q .none { s with heap := h', toks := tk }) → wpAny C.M A (call (.ref f) vs) Q E s
theorem CloI.isFn {C : Cfg} {f ca cn ci c' a : Addr} {n : Nat} {clos : List (Str × Addr)} (H : CloI C f ca cn ci c' a n clos) : Fn C (.ref f) := by
  obtain ⟨o, doc, pm, ctv, h1, rfl⟩ := H.fn
  exact .fn f fun h g => ⟨_, _, (h1 h g).1, rfl⟩
/-- the closure called as a statement -/
theorem DoS.cloI {C : Cfg} {T : List Addr} {f a : Addr} {n len j k : Nat} {env : Env} {fz : Bool} {m : Mp} {Q : Fl → Mp → Prop} {p pos pos' : Pos} {args : List Expr} {x : Int} {L R : Nat} {ds : List Int} (hf : Fn C (.ref f)) (S : SpecI C f a n len j) (hm : m.lookup (Str.ofString "inner") = some (.v (.ref f))) (hl : Loc env (Str.ofString "inner"))
    (hd : m.lookup (Str.ofString "a_digits") = some (.L a (ds.map .int))) (hns : NoStar args) (ha : Evs C k env m args [.int x, .int L, .int R]) (h1 : L < R) (h2 : R ≤ len) (h3 : R - L ≤ 2 ^ j) (h4 : 0 ≤ x) (h5 : x < 2 ^ (n * (R - L))) (hlen : ds.length = len) (hk : j + 1 ≤ k)
    (q : Q .next ((Str.ofString "a_digits", .L a ((put ds L R (digs n (R - L) x)).map .int)) :: m)) (hi : interactive env = false) (hs : swapsWith (.Call (.Name (Str.ofString "inner") p) args [] pos) none pos'.line env = pure false) :
    DoS C T k env fz (.Expr (.Call (.Name (Str.ofString "inner") p) args [] pos) pos') m Q := by
  intro A he Oc O s Qh E g F Rm p'
  refine wpAny_Expr ?_ hi hs
  refine wpAny_Call_Name_kw (EvB.name hm hl (by decide) (by decide) A T he Oc O s fz _ _ g F Rm fun v tk r => ?_)
  cases r
  refine callWith_fn hf (hns _ _) (ha A T he Oc O _ fz pos _ _ g F Rm fun vs h₁ tk₁ k₁ g₁ r₁ => ⟨g₁, ?_⟩)
  have F1 := F.kp k₁
  obtain ⟨v, hv, hO, hT, hH, ws, nn, ho, hr⟩ := F1.get hd
  refine S L R x h1 h2 h3 h4 h5 A O _ vs ws ds _ E g₁ F1.avs hO hT hlen ⟨nn, ho⟩ hr ((Rm.kp k₁).le hk) r₁ fun h' tk' ws' kp' g' hl' hr' => ?_
  exact p' .next .next _ O h' tk' q g' (Kd.trans k₁.dict kp'.dict) (F1.kpOwn kp' hd hl' hr') trivial
theorem Ev.lenL {C : Cfg} {k : Nat} {env : Env} {m : Mp} {x : Str} {px p pos : Pos} {a : Addr} {ds : List PyData} (st : Sta C) (hg : Glo C "len" (.builtin "len")) (hk : env.kindOf "len" = some .globalImplicit) (hm : m.lookup x = some (.L a ds)) (hl : Loc env x) (hsz : ds.length ≤ sizeLine)
    (hd : (x == ("__debug__" : Str)) = false := by decide) (hc : (x == ("__classdict__" : Str)) = false := by decide) : Ev C k env m (.Call (.Name "len" p) [.Name x px] [] pos) (.int ds.length) := by
  intro A T he Oc O s fz Q E g F R p'
  refine wpAny_Call_Name_kw (EvB.glob st hk hg (by decide) A T he Oc O s fz _ _ g F R fun v tk r => ?_)
  cases r
  refine callWith_fn (.bi "len") ((NoStar.cons NoStar.nil : NoStar [Expr.Name x px]) _ _) (wpAny_items_cons (EvB.name hm hl hd hc A T he Oc O _ fz _ _ g F R fun v tk r => wpAny_items_nil ⟨g, ?_⟩))
  obtain ⟨rfl, h1, h2, h3, vs, n, h4, h5⟩ := r
  refine call_len_list (items := vs.toArray) ⟨_, h4, rfl, _, rfl⟩ (by rw [sizeLine_eq] at hsz; simp [h5.length]; omega) ?_
  have e : ((vs.toArray.size : Nat) : Int) = (ds.length : Int) := by simp [h5.length]
  rw [e]
  exact p' _ _ _ (.refl ..) g (.int _ _)

theorem put_put {ds xs ys : List Int} {L M R : Nat} (hL : L ≤ M) (hR : M ≤ R) (hl : R ≤ ds.length) (hx : xs.length = M - L) : put (put ds L M xs) M R ys = put ds L R (xs ++ ys) := by
  have h1 : (ds.take L ++ xs).length = M := by rw [List.length_append, List.length_take, hx]; omega
  have h2 : (put ds L M xs).take M = ds.take L ++ xs := by unfold put; exact List.take_left' h1
  have h3 : (put ds L M xs).drop R = ds.drop R := by
    unfold put
    rw [show R = M + (R - M) by omega, ← List.drop_drop, List.drop_left' h1, List.drop_drop]
  unfold put at h2 h3 ⊢
  rw [h2, h3]
  simp [List.append_assoc]
theorem put_length {ds xs : List Int} {L R : Nat} (hL : L ≤ R) (hl : R ≤ ds.length) (hx : xs.length = R - L) : (put ds L R xs).length = ds.length := by
  unfold put; rw [List.length_append, List.length_append, List.length_take, List.length_drop, hx]; omega
theorem put_one {ds : List Int} {L : Nat} {x : Int} (hl : L < ds.length) : put ds L (L + 1) [x] = ds.set L x := by
  unfold put
  rw [List.set_eq_take_append_cons_drop, if_pos hl]; simp
noncomputable abbrev mI (f a : Addr) (n : Nat) (ds : List Int) (x : Int) (L R : Nat) : Mp := [(Str.ofString "R", .d (.int R)), (Str.ofString "L", .d (.int L)), (Str.ofString "x", .d (.int x)), (Str.ofString "a_digits", .L a (ds.map .int)), (Str.ofString "n", .d (.int n)), (Str.ofString "inner", .v (.ref f))]
theorem enterI {C : Cfg} {f ca cn ci c' a : Addr} {n : Nat} {clos : List (Str × Addr)} {ds fin : List Int} (H : CloI C f ca cn ci c' a n clos) {k L R : Nat} {x : Int}
    (body : ∀ L' doc pm ctv, Do C (a :: C.T) k (callEnv (fnX "inner" "_int2digits.<locals>.inner" dInI.params dInI.body dInI.scope clos .none .none doc pm none (.ref c') ctv) L' f) true dInI.body (mI f a n ds x L R) fun fl m' => (fl = .ret .none ∨ fl = .next) ∧ m'.lookup (Str.ofString "a_digits") = some (.L a (fin.map .int))) :
    ∀ (A : Around) (O : List Addr) (s : Shared) (vs ws : List Value) (Q E : Value → Shared → Prop), GI C s.heap → Av C O s.heap → a ∈ O → a ∉ C.T → s.heap.PlainList a ws.toArray → Reps O s.heap ws (ds.map .int) → Room C (k + 1) A s.heap → Reps O s.heap vs [.int x, .int L, .int R] →
    (∀ h' tk ws', Kp C (a :: C.T) s.heap h' → GI C h' → h'.PlainList a (List.toArray ws') → Reps O h' ws' (fin.map .int) → Q .none { s with heap := h', toks := tk }) → wpAny C.M A (call (.ref f) vs) Q E s := by
  intro A O s vs ws Q E g av haO haT hpl hws Rm rs p
  obtain ⟨o, doc, pm, ctv, h1, rfl⟩ := H.fn
  obtain ⟨ho, hcr⟩ := h1 _ g
  refine rs.three_ fun _ _ _ r0 r1 r2 => r0.int_ fun t0 => r1.int_ fun t1 => r2.int_ fun t2 => ?_
  · refine wpAny_call (codeAny_call_def (body := dInI.body) (binds := [(Str.ofString "x", .int x t0), (Str.ofString "L", .int L t1), (Str.ofString "R", .int R t2)]) (by have := Rm.depth; omega) ho rfl (H.st.ns _ g).2.2 hcr rfl (BindsTo.of_eq rfl) ?_ ?_ (fun h₀ hn keep => ?_))
    · have hnc : ∀ x ∈ dInI.scope.names, x.2 ≠ .cell := by decide
      exact fun x hx => hnc x hx
    · exact mem3_ rfl rfl rfl
    · obtain ⟨nn, hpl⟩ := hpl
      have F := FS.enterClo (T := a :: C.T) (a := f) (fd := fnX "inner" "_int2digits.<locals>.inner" dInI.params dInI.body dInI.scope clos .none .none doc pm none (.ref c') ctv) (binds := [(Str.ofString "x", .int x t0), (Str.ofString "L", .int L t1), (Str.ofString "R", .int R t2)])
        (m := [(Str.ofString "R", .d (.int R)), (Str.ofString "L", .d (.int L)), (Str.ofString "x", .d (.int x))]) (mc := [(Str.ofString "a_digits", .L a (ds.map .int)), (Str.ofString "n", .d (.int n)), (Str.ofString "inner", .v (.ref f))])
        g av (fun _ z => .tail _ z) (fun b hb => (List.mem_cons.mp hb).elim (fun z => z ▸ haO) (av.1 b)) rfl rfl rfl hn keep (.cons ⟨rfl, .int _ _⟩ (.cons ⟨rfl, .int _ _⟩ (.cons ⟨rfl, .int _ _⟩ .nil))) (fun x c e => ?_) (fun x y c e1 e2 => ?_) (fun x v hx => ?_) (fun x b e => ?_) (fun x y bx by' a e1 e2 a1 a2 => ?_)
      · have g0 : GI C h₀ := g.keepAll keep
        obtain ⟨oL, es, ep, eL, dL, _⟩ := id hn
        have kd : Kd s.heap h₀ := (Kp.of_keeps (C := C) (O := []) keep).dict
        refine body s.heap.objs.size doc pm ctv _ s.heap O _ _ _ _ g0 F (Rm.deeper kd rfl (L := s.heap.objs.size) rfl (g.fresh (size_none _)) ⟨oL, es, ep, eL, dL⟩) fun f fd m' O₂ h₂ tk₂ q g₂ kd₂ F₂ fb => ?_
        obtain ⟨q1, q2⟩ := q
        obtain ⟨ws', hpl', hr'⟩ := F₂.isList q2
        have fin' := p h₂ tk₂ ws' F₂.ext g₂ hpl' (hr'.sub fun c hc => .inl (F₂.sup c hc).1)
        rcases q1 with rfl | rfl
        · cases f <;> first | exact fb.elim | skip
          cases fb
          exact fin'
        · cases f <;> first | exact fb.elim | skip
          exact fin'
      · obtain ⟨t, hn'⟩ := H.n.2
        rcases H.only x c e with ⟨rfl, rfl⟩ | ⟨rfl, rfl⟩ | ⟨rfl, rfl⟩
        · exact ⟨fun z => (List.mem_cons.mp z).elim H.noA.1 H.noT.1, _, H.d.2 _ g⟩
        · exact ⟨fun z => (List.mem_cons.mp z).elim H.noA.2.1 H.noT.2.1, _, hn' _ g⟩
        · exact ⟨fun z => (List.mem_cons.mp z).elim H.noA.2.2 H.noT.2.2, _, H.i.2 _ g⟩
      · rcases H.only x c e1 with ⟨rfl, rfl⟩ | ⟨rfl, rfl⟩ | ⟨rfl, rfl⟩ <;> rcases H.only y _ e2 with ⟨rfl, h⟩ | ⟨rfl, h⟩ | ⟨rfl, h⟩ <;> first
          | rfl
          | exact absurd h H.apart.1 | exact absurd h H.apart.2.1 | exact absurd h H.apart.2.2 | exact absurd h.symm H.apart.1 | exact absurd h.symm H.apart.2.1 | exact absurd h.symm H.apart.2.2
      · exact mem3_ (P := fun y : Str × Value => dInI.scope.names.lookup y.1 = some .local) rfl rfl rfl _ hx
      · obtain ⟨t, hn'⟩ := H.n.2
        revert x b
        refine lookC_ ?_ (lookC_ ?_ (lookC_ ?_ look0_))
        · exact ⟨(by decide : dInI.scope.names.lookup (Str.ofString "a_digits") ≠ some .local), ca, _, H.d.1, H.d.2 _ g, rfl, haO, haT, .inr (.head _), ws, nn, hpl, hws⟩
        · exact ⟨(by decide : dInI.scope.names.lookup (Str.ofString "n") ≠ some .local), cn, _, H.n.1, hn' _ g, .int _ _⟩
        · exact ⟨(by decide : dInI.scope.names.lookup (Str.ofString "inner") ≠ some .local), ci, _, H.i.1, H.i.2 _ g, rfl⟩
      · have hm := mem_of_lookup e1
        have hm2 := mem_of_lookup e2
        simp only [List.mem_cons, Prod.mk.injEq, List.not_mem_nil, or_false] at hm hm2
        rcases hm with ⟨rfl, rfl⟩ | ⟨rfl, rfl⟩ | ⟨rfl, rfl⟩ <;> first | (cases a1; done) | skip
        rcases hm2 with ⟨rfl, rfl⟩ | ⟨rfl, rfl⟩ | ⟨rfl, rfl⟩ <;> first | rfl | cases a2
theorem specI {C : Cfg} {f ca cn ci c' a : Addr} {n len : Nat} {clos : List (Str × Addr)} (H : CloI C f ca cn ci c' a n clos) (hsz : n * len ≤ 1000000) (hdl : len ≤ 100000) (hnn : n ≤ 1000000) : ∀ j, SpecI C f a n len j := by
  have single : ∀ (k L R : Nat) (x : Int) (ds : List Int) L' doc pm ctv, R = L + 1 → R ≤ ds.length → ds.length = len → 0 ≤ x → x < 2 ^ (n * (R - L)) →
      ∀ Q' : Fl → Mp → Prop, (∀ m', m'.lookup (Str.ofString "a_digits") = some (.L a ((put ds L R (digs n (R - L) x)).map .int)) → Q' (.ret .none) m') → DoS C (a :: C.T) k (callEnv (fnX "inner" "_int2digits.<locals>.inner" dInI.params dInI.body dInI.scope clos .none .none doc pm none (.ref c') ctv) L' f) true (dInI.body.head (by decide)) (mI f a n ds x L R) Q' := by
    intro k L R x ds L' doc pm ctv hR hle hlen h0 h1 Q' hq
    have hval : digs n (R - L) x = [x] := by
      rw [hR, show L + 1 - L = 1 by omega] at h1 ⊢
      rw [Nat.mul_one] at h1
      simp only [digs]
      rw [Int.emod_eq_of_lt h0 h1]
    refine DoS.ite (b := ((L : Int) + 1 == (R : Int))) ?_ (fun hb => ?_) (fun hb => absurd (show ((L : Int) + 1 == (R : Int)) = true by simp [hR]) (by rw [hb]; decide))
    · walk_at "ev"
    · refine Do.cons (DoS.set (ds := ds.map .int) (i := (L : Int)) (d := .int x) rfl (Or.inr (Or.inr rfl)) ?_ ?_ (by omega) (by rw [List.length_map]; omega) (by rw [List.length_map, sizeLine_eq]; omega) ?_)
      · walk_at "ev"
      · walk_at "ev"
      · dsimp only
        refine Do.cons (DoS.ret0 (hq _ ?_))
        rw [hval, hR, put_one (by omega), Int.toNat_natCast]
        show List.lookup _ ((Str.ofString "a_digits", _) :: _) = _
        rw [lk_self, List.map_set]
  intro j
  induction j with
  | zero =>
    intro L R x h1 h2 h3 h4 h5 A O s vs ws ds Q E g av haO haT hlen hpl hws Rm rs p
    have hR : R = L + 1 := by have : (2 : Nat) ^ 0 = 1 := rfl; omega
    exact enterI H (k := 0) (fun L' doc pm ctv => Do.cons (single 0 L R x ds L' doc pm ctv hR (by omega) hlen h4 h5 _ fun m' hm => ⟨.inl rfl, hm⟩)) A O s vs ws Q E g av haO haT hpl hws Rm rs p
  | succ j ih =>
    intro L R x h1 h2 h3 h4 h5 A O s vs ws ds Q E g av haO haT hlen hpl hws Rm rs p
    refine enterI H (k := j + 1) (fin := put ds L R (digs n (R - L) x)) (fun L' doc pm ctv => ?_) A O s vs ws Q E g av haO haT hpl hws Rm rs p
    by_cases hR : R = L + 1
    · exact Do.cons (single (j + 1) L R x ds L' doc pm ctv hR (by omega) hlen h4 h5 _ fun m' hm => ⟨.inl rfl, hm⟩)
    · obtain ⟨M, hM⟩ : ∃ M, M = (L + R) / 2 := ⟨_, rfl⟩
      have hmid := half_mid hM
      obtain ⟨hLM, hMR, hj1, hj2, hs⟩ := half_facts hM h1 hR h3
      have hMl := Nat.le_trans (Nat.le_of_lt hMR) h2
      have hml := half_mul (n := n) hLM
      have hRl : R ≤ len := h2
      have hsz1 : n * (R - L) ≤ 1000000 := Nat.le_trans (Nat.mul_le_mul_left n (sub_le2 hRl)) hsz
      have hsz2 : n * (M - L) ≤ 1000000 := Nat.le_trans (Nat.mul_le_mul_left n (sub_le2 (Nat.le_trans (Nat.le_of_lt hMR) hRl))) hsz
      have hp := two_pos (n * (M - L))
      have hup : x.fdiv (2 ^ (((M : Int) - L) * n).toNat) = x / 2 ^ (n * (M - L)) := by rw [hml, Int.toNat_natCast]; exact fdiv_pos (Int.le_of_lt hp)
      have hlo : Builtin.bitXor x (x / 2 ^ (n * (M - L)) * 2 ^ (((M : Int) - L) * n).toNat) = x % 2 ^ (n * (M - L)) := by rw [hml, Int.toNat_natCast]; exact xor_low h4 _
      have hu0 := Int.ediv_nonneg h4 (Int.le_of_lt hp)
      have hu1 : x / 2 ^ (n * (M - L)) < 2 ^ (n * (R - M)) := Int.ediv_lt_of_lt_mul hp (by
        rw [← nat_pow_add, ← Nat.mul_add, hs]; exact h5)
      have hl0 := Int.emod_nonneg x (Int.ne_of_gt hp)
      have hl1 := Int.emod_lt_of_pos x hp
      have hub := bits_bound hu0 hu1
      have hsz3 : n * (R - M) ≤ 1000000 := Nat.le_trans (Nat.mul_le_mul_left n (sub_le2 hRl)) hsz
      refine Do.cons (DoS.ite (b := ((L : Int) + 1 == (R : Int))) ?_ (fun hb => (half_ne hR hb).elim) (fun hb => Do.nil ?_))
      · walk_at "ev"
      dsimp only
      refine Do.cons (DoS.assign ⟨.inl rfl, nofun⟩ (d := .int M) (Ev.cast (d' := .int (((L : Int) + R).fdiv (2 ^ (1 : Int).toNat))) ?_ (by rw [hmid])) ?_)
      · walk_at "ev"
        decide
      dsimp only
      refine Do.cons (DoS.assign ⟨.inl rfl, nofun⟩ (d := .int (((M : Int) - L) * n)) ?_ ?_)
      · walk_at "ev"
        exact half_ok hLM (Nat.le_trans (Nat.le_trans (Nat.le_of_lt hMR) hRl) hdl) hnn
      dsimp only
      refine Do.cons (DoS.assign ⟨.inl rfl, nofun⟩ (d := .int (x / 2 ^ (n * (M - L)))) (Ev.cast (d' := .int (x.fdiv (2 ^ (((M : Int) - L) * n).toNat))) ?_ (by rw [hup])) ?_)
      · walk_at "ev"
        rw [hml]; exact Int.natCast_nonneg _
      dsimp only
      refine Do.cons (DoS.assign ⟨.inl rfl, nofun⟩ (d := .int (x % 2 ^ (n * (M - L)))) (Ev.cast (d' := .int (Builtin.bitXor x (x / 2 ^ (n * (M - L)) * 2 ^ (((M : Int) - L) * n).toNat))) ?_ (by rw [hlo])) ?_)
      · walk_at "ev"
        · rw [hml]; omega
        · rw [hml]; omega
      dsimp only
      refine Do.cons (DoS.cloI H.isFn ih rfl (Or.inr (Or.inr rfl)) rfl (.cons (.cons (.cons .nil))) ?_ hLM hMl hj2 hl0 hl1 hlen (Nat.le_refl _) ?_ rfl rfl)
      · walk_at "ev"
      dsimp only
      refine Do.cons (DoS.cloI (ds := put ds L M (digs n (M - L) (x % 2 ^ (n * (M - L))))) H.isFn ih rfl (Or.inr (Or.inr rfl)) rfl (.cons (.cons (.cons .nil))) ?_ hMR h2 hj1 hu0 hu1 ?_ (Nat.le_refl _) ?_ rfl rfl)
      · walk_at "ev"
      · rw [put_length (Nat.le_of_lt hLM) (by rw [hlen]; exact hMl) (digs_length _ _ _)]; exact hlen
      · dsimp only
        refine Do.nil ⟨.inr rfl, ?_⟩
        rw [lk_self, put_put (Nat.le_of_lt hLM) (Nat.le_of_lt hMR) (by rw [hlen]; exact h2) (digs_length _ _ _), ← digs_split, Nat.add_comm, hs]

/-- _int2digits -/
theorem i2d_spec {C : Cfg} (W : Wd C) {n : Nat} {x : Int} {K j : Nat} (h0 : 0 ≤ x) (hn1 : 1 ≤ n) (hK : (Builtin.Int.intBits x + n - 1) / n = K) (hsz : n * K ≤ 1000000) (hdl : K ≤ 100000) (hnn : n ≤ 1000000) (hj : K ≤ 2 ^ j) :
    Opn C (j + 2) (fun vs => PySem.call (.ref W.aI2D) vs) [.int x, .int n] (.list ((digs n K x).map .int)) := by
  have hb1 : Builtin.Int.intBits x ≤ n * K := by
    have := Nat.lt_mul_div_succ (Builtin.Int.intBits x + n - 1) (show 0 < n by omega)
    rw [hK, Nat.mul_add] at this; omega
  have hxK : x < 2 ^ (n * K) := by
    have h2 := lt_bits x
    have h3 : x.natAbs < 2 ^ (n * K) := Nat.lt_of_lt_of_le h2 (Nat.pow_le_pow_right (by decide) hb1)
    rw [← pow_cast]; omega
  have hKi : ((Builtin.Int.intBits x : Int) + n - 1).fdiv n = (K : Int) := by
    rw [fdiv_pos (by omega)]
    have e : (Builtin.Int.intBits x : Int) + n - 1 = ((Builtin.Int.intBits x + n - 1 : Nat) : Int) := by omega
    rw [e, ← hK]; rfl
  intro A O s vs Q E g av R rs p
  obtain ⟨o, pm, doc, e, hdat, hcr⟩ := W.hI2D.code W.fI
  refine rs.two_ fun v1 v2 r1 r2 => ?_
  refine wpAny_call (codeAny_call_cells (body := dI2D.body) (binds := [(Str.ofString "a", v1), (Str.ofString "n", v2)]) (by have := R.depth; omega) (g.base _ _ e) hdat (W.st.ns _ g).2.2 (hcr _ g) rfl rfl rfl ?_ (fun s₁ xx => ?_))
  · first | exact mem2_ (.inl rfl) (.inr ⟨rfl, rfl⟩) | exact mem2_ (.inr ⟨rfl, rfl⟩) (.inr ⟨rfl, rfl⟩)
  obtain ⟨O', F, g1, kd⟩ := FS.enter (m := [(Str.ofString "n", .d (.int n)), (Str.ofString "a", .d (.int x))]) g av (fd := dI2D.data pm (.ref W.cI) doc) (a := W.aI2D) rfl rfl rfl (by first | exact mem2_ (.inl rfl) (.inr ⟨rfl, rfl⟩) | exact mem2_ (.inr ⟨rfl, rfl⟩) (.inr ⟨rfl, rfl⟩)) xx (.cons ⟨rfl, r2⟩ (.cons ⟨rfl, r1⟩ .nil))
  obtain ⟨h', tk, es⟩ := xx.toInCall.same
  subst es
  obtain ⟨oL, esL, epL, eL, dL, _⟩ := id xx.toInCall.ns
  have R' : Room C (j + 1) (A.deeper (callEnvC (dI2D.data pm (.ref W.cI) doc) s.heap.objs.size W.aI2D)) h' := R.deeper kd rfl (L := s.heap.objs.size) rfl (g.fresh (size_none _)) ⟨oL, esL, epL, eL, dL⟩
  obtain ⟨env, henv⟩ : ∃ env, env = callEnvC (dI2D.data pm (.ref W.cI) doc) s.heap.objs.size W.aI2D := ⟨_, rfl⟩
  have hkd : env.kindOf (Str.ofString "a_digits") = some .cell := by rw [henv]; rfl
  have hka : env.kindOf (Str.ofString "a") = some .local := by rw [henv]; rfl
  have hcd : (env.cells.lookup (Str.ofString "a_digits")).isSome = true := by rw [henv]; rfl
  have hbl : ∀ z, attributeBase (.Name (Str.ofString "a") z) (Str.ofString "bit_length") env (eval (.Name (Str.ofString "a") z) env) = eval (.Name (Str.ofString "a") z) env := fun z => by rw [henv]; rfl
  have hkn : env.kindOf (Str.ofString "n") = some .cell := by rw [henv]; rfl
  have hki : env.kindOf (Str.ofString "inner") = some .cell := by rw [henv]; rfl
  have hok : compOk dInI.scope env = true := by rw [henv]; rfl
  have hci : (env.cells.lookup (Str.ofString "inner")).isSome = true := by rw [henv]; rfl
  have hqual : qualnameIn env (Str.ofString "inner") (Str.ofString "inner") = Str.ofString "_int2digits.<locals>.inner" := by rw [henv]; rfl
  have hlen : env.kindOf (Str.ofString "len") = some .globalImplicit := by rw [henv]; rfl
  have hglob : env.globals = mainGlobals := by rw [henv]; rfl
  have hcode : env.code = .ref W.cI := by rw [henv]; rfl
  have hinter : interactive env = false := by rw [henv]; rfl
  have hnames : ∀ y c, (closOf env dInI.scope.names []).lookup y = some c → y = Str.ofString "a_digits" ∨ y = Str.ofString "n" ∨ y = Str.ofString "inner" := fun y c e => by
    have hm := (closOf_free _ _ y c e).resolve_left (by intro z; cases z)
    have hall : ∀ q ∈ dInI.scope.names, q.2 = NameKind.free → q.1 = Str.ofString "a_digits" ∨ q.1 = Str.ofString "n" ∨ q.1 = Str.ofString "inner" := by decide
    exact hall _ hm rfl
  rw [← henv] at F R' ⊢
  have hbody : dI2D.body = dI2D.body.head (by decide) :: .FunctionDef (Str.ofString "inner") dInI.params dInI.body [] none [] dInI.scope none (Str.ofString "inner") dInI.pos :: dI2D.body.drop 2 := rfl
  rw [hbody]
  have tw : TabW C C.ti dInI.pos "_int2digits.<locals>.inner" none := by
    have := TabW.i (C := C) W.ne
    rw [W.posI, W.ki0] at this; exact this
  have st1 : DoS C C.T (j + 1) env false (dI2D.body.head (by decide)) [(Str.ofString "n", .d (.int n)), (Str.ofString "a", .d (.int x))] fun fl m' => fl = .next ∧ ∃ a, m' = [(Str.ofString "a_digits", .L a ((List.replicate K 0).map .int)), (Str.ofString "n", .d (.int n)), (Str.ofString "a", .d (.int x))] := by
    refine DoS.assignL (ds := (List.replicate K 0).map .int) ⟨.inr hkd, fun _ => ⟨rfl, hcd⟩⟩ ?_ (fun a => ⟨rfl, a, rfl⟩)
    have e : (List.replicate K (0 : Int)).map PyData.int = List.replicate ((K : Int)).toNat (.int 0) := by rw [List.map_replicate, Int.toNat_natCast]
    rw [e, ← hKi]
    refine EvL.bin ?_ ?_ (op_mul1 (by rw [hKi]; omega) (by rw [hKi]; omega))
    · walk_at "ev"
    · have hn : ∀ z, Ev C (j + 1) env [(Str.ofString "n", .d (.int n)), (Str.ofString "a", .d (.int x))] (.Name (Str.ofString "n") z) (.int n) := fun z => Ev.name rfl (Or.inr (Or.inl hkn))
      have ha : ∀ z, Ev C (j + 1) env [(Str.ofString "n", .d (.int n)), (Str.ofString "a", .d (.int x))] (.Name (Str.ofString "a") z) (.int x) := fun z => Ev.name rfl (Or.inl hka)
      refine Ev.bin (Ev.bin (Ev.bin ?_ (hn _) op_add) Ev.int op_sub) (hn _) (op_floordiv ?_ ?_)
      · exact Ev.meth' meth_bitlen (hbl _) rfl (by decide) NoStar.nil (ha _) rfl Evs.nil call_bitlen
      · show (n : Int) ≠ 0
        omega
      · refine no_pylong (by omega) (Nat.le_trans (bits_bound (k := 64) (by omega) ?_) (by omega))
        have : n * K ≤ 1000000 := hsz
        have e : (2 : Int) ^ 64 = 18446744073709551616 := by decide
        omega
  refine wpAny_execs_cons (st1 (A.deeper env) s.heap O O' _ _ _ g1 F R' fun fl0 fd0 m0 O₁ h₁ tk₁ q0 g1 kd₁ F fb0 => ?_)
  obtain ⟨rfl, a, rfl⟩ := q0
  cases fl0 <;> first | exact fb0.elim | skip
  refine wpAny_execs_cons (nestDef_K rfl rfl rfl ?_)
  rw [hqual]
  refine def_run (O := O₁) tw (W.st.ns _ g1).1 (W.blt _ g1 _ tw.mem) (clos_eq hok) hglob hcode (W.codeI _ g1) g1 F.avs fun c' ctv doc' pm' h₂ tk₂ f kp₂ g₂ hf hfo hrec htab => ?_
  have g₂' : GI (C.ext [] (some c') C.kd) h₂ := g₂.toExt (fun b o e => by cases e) (by rw [W.posI]; exact htab) (g₂.tabd.weak (.inr rfl))
  have F₂ : FS (C.ext [] (some c') C.kd) C.T env s.heap O O₁ h₂ false [(Str.ofString "a_digits", .L a ((List.replicate K 0).map .int)), (Str.ofString "n", .d (.int n)), (Str.ofString "a", .d (.int x))] := (F.kp kp₂).ext0
  have hfO : f ∉ O₁ := fun z => by obtain ⟨_, o, e⟩ := F.av f z; rw [show h₁.get? f = none from hf] at e; cases e
  refine F₂.bind (C := C.ext [] (some c') C.kd) (s := { s with heap := h₂, toks := tk₂ }) (b := .v (.ref f)) g₂' (.inr hki) (fun _ => ⟨rfl, hci⟩) rfl (.none rfl) fun h₃ tk₃ kp₃ g₃ F₃ => ?_
  have hfo₃ : h₃.get? f = some (fnMade "inner" "_int2digits.<locals>.inner" dInI.params dInI.body dInI.scope (closOf env dInI.scope.names []) doc' pm' c' ctv) := kp₃.seq hfO hfo (fun es ep z => by cases z)
  have hfh : s.heap.get? f = none := by
    cases e : s.heap.get? f with
    | none => rfl
    | some o => obtain ⟨o', e'⟩ := F.ext.live _ _ e; rw [show h₁.get? f = none from hf] at e'; cases e'
  obtain ⟨cn, vn, en, in', rn, F₄⟩ := F₃.pin hkn rfl
  obtain ⟨mm, _, hm⟩ := F₃.bear
  obtain ⟨ci, vi, ei, ii', ri⟩ := (hm (Str.ofString "inner") _ rfl).2.1 (.inl hki)
  obtain ⟨cd, vd, ed, id', rd⟩ := (hm (Str.ofString "a_digits") _ rfl).2.1 (.inl hkd)
  obtain ⟨rfl, haO, haT, haH, ws, nws, haobj, hws⟩ := rd
  cases ri
  cases rn
  rename_i tn
  obtain ⟨od, od1, od2⟩ := id'
  obtain ⟨on, on1, on2⟩ := in'
  obtain ⟨oi, oi1, oi2⟩ := ii'
  have cellO : ∀ y c, env.cells.lookup y = some c → c ∉ C.T ∧ s.heap.get? c = none := fun y c e => ⟨(F.cells y c e).1, ((F.cells y c e).2.2 rfl).2⟩
  have ne_loc : ∀ (c : Addr) (o : Obj) v, h₃.get? c = some o → o.data = .cell v → c ≠ env.locals := fun c o v e d z => by
    obtain ⟨mm, ⟨oL, es, ep, eL, dL, _⟩, _⟩ := F₃.bear
    rw [z, eL] at e; cases e; rw [dL] at d; cases d
  have f_loc : f ≠ env.locals := fun z => hfO (z ▸ F.loc.1)
  obtain ⟨l, hl'⟩ : ∃ l : List (Addr × Obj), l = [(f, fnMade "inner" "_int2digits.<locals>.inner" dInI.params dInI.body dInI.scope (closOf env dInI.scope.names []) doc' pm' c' ctv), (cd, od), (cn, on), (ci, oi)] := ⟨_, rfl⟩
  have lmem : ∀ b o, (b, o) ∈ l → h₃.get? b = some o ∧ s.heap.get? b = none ∧ b ≠ env.locals ∧ (∀ xs n, o.data ≠ .seq xs n) ∧ ¬ Fld o := by
    intro b o hbo
    rw [hl'] at hbo
    simp only [List.mem_cons, Prod.mk.injEq, List.not_mem_nil, or_false] at hbo
    rcases hbo with ⟨rfl, rfl⟩ | ⟨rfl, rfl⟩ | ⟨rfl, rfl⟩ | ⟨rfl, rfl⟩
    · exact ⟨hfo₃, hfh, f_loc, (fun _ _ z => by cases z), fun ⟨_, z, _⟩ => by cases z⟩
    · exact ⟨od1, (cellO _ _ ed).2, ne_loc _ _ _ od1 od2, (fun _ _ z => by rw [od2] at z; cases z), fun ⟨_, z, _⟩ => by rw [od2] at z; cases z⟩
    · exact ⟨on1, (cellO _ _ en).2, ne_loc _ _ _ on1 on2, (fun _ _ z => by rw [on2] at z; cases z), fun ⟨_, z, _⟩ => by rw [on2] at z; cases z⟩
    · exact ⟨oi1, (cellO _ _ ei).2, ne_loc _ _ _ oi1 oi2, (fun _ _ z => by rw [oi2] at z; cases z), fun ⟨_, z, _⟩ => by rw [oi2] at z; cases z⟩
  have lT : ∀ b o, (b, o) ∈ l → b ∉ C.T := by
    intro b o hbo z
    obtain ⟨_, e0, _⟩ := lmem b o hbo
    obtain ⟨_, o2, e2⟩ := av.2 b (av.1 b z)
    rw [e0] at e2; cases e2
  obtain ⟨O₄, _, F₅⟩ := FS.seal (C := C.ext [] (some c') C.kd) (l := l) (ki := some c') (kd := C.kd) F₄ (.inr rfl) (.inr rfl) lmem lT
  have hdict : ∀ b o, (b, o) ∈ l → ∀ es ep, o.data ≠ .dict es ep := by
    intro b o hbo es ep z
    rw [hl'] at hbo
    simp only [List.mem_cons, Prod.mk.injEq, List.not_mem_nil, or_false] at hbo
    rcases hbo with ⟨rfl, rfl⟩ | ⟨rfl, rfl⟩ | ⟨rfl, rfl⟩ | ⟨rfl, rfl⟩
    · cases z
    · rw [od2] at z; cases z
    · rw [on2] at z; cases z
    · rw [oi2] at z; cases z
  have g₅ : GI ((C.ext [] (some c') C.kd).ext l (some c') C.kd) h₃ := g₃.toExt (fun b o e => (lmem b o (mem_of_lookupA e)).1) g₃.tabi g₃.tabd
  have lookl : ∀ b o, (b, o) ∈ l → ∀ h, GI ((C.ext [] (some c') C.kd).ext l (some c') C.kd) h → h.get? b = some o := by
    intro b o hbo h gh
    have e1 := (lmem b o hbo).1
    refine gh.base b o ?_
    show ((C.base b).or none).or (l.lookup b) = some o
    have hb0 : C.base b = none := g.fresh (lmem b o hbo).2.1
    rw [hb0]
    have : (l.lookup b).isSome = true := by
      cases hq : l.lookup b with
      | some _ => rfl
      | none =>
        exfalso
        have hm' : ∀ (l : List (Addr × Obj)), (b, o) ∈ l → l.lookup b ≠ none := by
          intro l
          induction l with
          | nil => intro hm _; cases hm
          | cons q r ih =>
            obtain ⟨q1, q2⟩ := q
            intro hm hlk
            rw [List.lookup_cons] at hlk
            cases hbq : b == q1 with
            | true => rw [hbq] at hlk; cases hlk
            | false =>
              rw [hbq] at hlk
              rcases List.mem_cons.mp hm with e | hm
              · cases e; simp at hbq
              · exact ih hm hlk
        exact hm' l hbo hq
    obtain ⟨o', ho'⟩ := Option.isSome_iff_exists.mp this
    have e2 := (lmem b o' (mem_of_lookupA ho')).1
    rw [e1] at e2; cases e2
    rw [ho']; rfl
  have st₅ : Sta ((C.ext [] (some c') C.kd).ext l (some c') C.kd) := (W.st.ext (.inl W.ki0) (.inr rfl)).ext (.inr rfl) (.inr rfl)
  have cs : ∀ y c, (closOf env dInI.scope.names []).lookup y = some c → env.cells.lookup y = some c := fun y c e => closOf_sub _ _ y c (fun _ _ z => by cases z) e
  have cget : ∀ y c, env.cells.lookup y = some c → (y, NameKind.free) ∈ dInI.scope.names → (closOf env dInI.scope.names []).lookup y = some c := fun y c e hm' => by
    obtain ⟨c2, h2⟩ := Option.isSome_iff_exists.mp (closOf_some (env := env) dInI.scope.names [] y (.inr ⟨.free, hm', rfl, by rw [e]; rfl⟩))
    rw [h2]; have := cs _ _ h2; rw [e] at this; exact this.symm
  have H : CloI ((C.ext [] (some c') C.kd).ext l (some c') C.kd) f cd cn ci c' a n (closOf env dInI.scope.names []) := {
    st := st₅
    fn := ⟨_, doc', pm', ctv, fun h gh => ⟨lookl f _ (by rw [hl']; exact .head _) h gh, by
      obtain ⟨ps, hps, hq | ⟨c2, ⟨hq1, hq2⟩, hq3⟩⟩ := gh.tabi
      · exact absurd hq.1 (by intro z; cases z)
      · have : c' = c2 := by rcases hq1 with z | z <;> cases z; rfl
        subst this; exact hq3⟩, rfl⟩
    d := ⟨cget _ _ ed (by decide), fun h gh => ⟨od, lookl cd od (by rw [hl']; simp) h gh, od2⟩⟩
    n := ⟨cget _ _ en (by decide), tn, fun h gh => ⟨on, lookl cn on (by rw [hl']; simp) h gh, on2⟩⟩
    i := ⟨cget _ _ ei (by decide), fun h gh => ⟨oi, lookl ci oi (by rw [hl']; simp) h gh, oi2⟩⟩
    only := fun y c e => by
      have e2 := cs _ _ e
      rcases hnames y c e with rfl | rfl | rfl
      · rw [ed] at e2; cases e2; exact .inl ⟨rfl, rfl⟩
      · rw [en] at e2; cases e2; exact .inr (.inl ⟨rfl, rfl⟩)
      · rw [ei] at e2; cases e2; exact .inr (.inr ⟨rfl, rfl⟩)
    apart := ⟨fun z => absurd (F.apart _ _ cd ed (z ▸ en)) (by decide), fun z => absurd (F.apart _ _ cd ed (z ▸ ei)) (by decide), fun z => absurd (F.apart _ _ cn en (z ▸ ei)) (by decide)⟩
    noT := ⟨(cellO _ _ ed).1, (cellO _ _ en).1, (cellO _ _ ei).1⟩
    noA := ⟨(fun z => by rw [z, haobj] at od1; cases od1; cases od2), (fun z => by rw [z, haobj] at on1; cases on1; cases on2), (fun z => by rw [z, haobj] at oi1; cases oi1; cases oi2)⟩ }
  have R₅ : Room ((C.ext [] (some c') C.kd).ext l (some c') C.kd) (j + 1) (A.deeper env) h₃ := by
    have R1 : Room C (j + 1) (A.deeper env) h₃ := R'.kd (Kd.trans kd₁ (Kd.trans kp₂.dict kp₃.dict))
    exact (R1.ofExt (l := []) (fun _ _ z => by cases z) (fun _ _ z => by cases z)).ofExt hdict fun b o z => (lmem b o z).1
  have hL : ∀ y, env.kindOf y = some .cell → Loc env y := fun y z => .inr (.inl z)
  have hxl : ∀ {m : Mp} z, m.lookup (Str.ofString "a") = some (.d (.int x)) → Ev ((C.ext [] (some c') C.kd).ext l (some c') C.kd) (j + 1) env m (.Name (Str.ofString "a") z) (.int x) := fun z hm => Ev.name hm (Or.inl hka)
  have body : Do ((C.ext [] (some c') C.kd).ext l (some c') C.kd) C.T (j + 1) env true (dI2D.body.drop 2) [(Str.ofString "a_digits", .L a ((List.replicate K 0).map .int)), (Str.ofString "inner", .v (.ref f)), (Str.ofString "a", .d (.int x))] fun fl _ => fl = .ret (.list ((digs n K x).map .int)) := by
    have fin : ∀ m : Mp, m.lookup (Str.ofString "a_digits") = some (.L a ((digs n K x).map .int)) → Do ((C.ext [] (some c') C.kd).ext l (some c') C.kd) C.T (j + 1) env true (dI2D.body.drop 3) m fun fl _ => fl = .ret (.list ((digs n K x).map .int)) := fun m hm =>
      Do.freeze hm (Do.cons (DoS.ret (Ev.name rfl (hL _ hkd)) rfl))
    refine Do.cons (DoS.ite (b := (x != 0)) (Te.val' (fun _ => rfl) (hxl _ rfl) t_int) (fun hb => ?_) (fun hb => ?_))
    · have hx0 : x ≠ 0 := by simpa using hb
      have hK0 : 0 < K := by
        cases K with
        | zero => rw [Nat.mul_zero] at hxK; have : (2 : Int) ^ 0 = 1 := rfl; omega
        | succ => omega
      refine Do.cons (DoS.cloI (ds := List.replicate K 0) (len := K) (j := j) (L := 0) (R := K) (x := x) H.isFn (specI H hsz hdl hnn j) rfl (hL _ hki) rfl (.cons (.cons (.cons .nil))) ?_ hK0 (Nat.le_refl _) (by omega) h0 hxK List.length_replicate (Nat.le_refl _) ?_ hinter rfl)
      · refine Evs.cons' rfl (hxl _ rfl) (Evs.cons' rfl Ev.int (Evs.cons' rfl ?_ .nil))
        have e : (PyData.int ((K : Nat) : Int)) = .int (((List.replicate K (0 : Int)).map PyData.int).length : Int) := by rw [List.length_map, List.length_replicate]
        rw [e]
        exact Ev.lenL st₅ W.len hlen rfl (hL _ hkd) (by rw [List.length_map, List.length_replicate, sizeLine_eq]; omega)
      · dsimp only
        refine Do.nil ?_
        dsimp only
        refine fin _ ?_
        rw [lk_self]
        have : put (List.replicate K 0) 0 K (digs n (K - 0) x) = digs n K x := by
          unfold put
          rw [List.take_zero, List.nil_append, List.drop_eq_nil_of_le (by rw [List.length_replicate]; omega), List.append_nil]; rfl
        rw [this]
    · have hx0 : x = 0 := by simpa using hb
      have hK0 : K = 0 := by
        rw [← hK, hx0]
        show (0 + n - 1) / n = 0
        exact Nat.div_eq_of_lt (by omega)
      refine Do.nil ?_
      dsimp only
      refine fin _ ?_
      subst hK0; rfl
  refine body _ s.heap O O₄ _ _ _ g₅ (F₅.sub (SubL.sub (by repeat (first | exact trivial | refine ⟨rfl, ?_⟩)))) R₅ fun fl fd m' O₆ h₆ tk₆ q g₆ kd₆ F₆ fb => ?_
  subst q
  cases fl <;> first | exact fb.elim | skip
  exact p _ h₆ tk₆ F₆.ext.ofExt.ofExt ((g₆.ofExt (.inr rfl) (.inr rfl)).ofExt (.inl W.ki0) (.inr rfl)) (fb.sub fun c hc => .inl (F₆.sup c hc).1)

/-- the plain step of the division -/
theorem div_step {A A12 a3 q r b b1 b2 : Int} {n : Nat} (hb : b = b1 * 2 ^ n + b2) (hA : A = A12 * 2 ^ n + a3) (h12 : A12 = q * b1 + r) : A = q * b + (r * 2 ^ n + a3 - q * b2) := by
  subst hA h12 hb
  generalize (2 : Int) ^ n = p
  rw [Int.mul_add, Int.add_mul, Int.mul_assoc]
  omega
theorem div_unique {A q r b : Int} (hb : 0 < b) (h : A = q * b + r) (h0 : 0 ≤ r) (h1 : r < b) : A / b = q ∧ A % b = r := by
  have := Int.ediv_emod_unique hb (a := A) (r := r) (q := q)
  exact this.mpr ⟨by rw [h, Int.mul_comm]; omega, h0, h1⟩
noncomputable abbrev Spec2 (C : Cfg) (W : Wd C) (k : Nat) (N : Nat) : Prop := ∀ (a b : Int) (n : Nat), n ≤ N → 1 ≤ n → 2 ^ (n - 1) ≤ b → b < 2 ^ n → 0 ≤ a → a < b * 2 ^ n →
  Opn C k (fun vs => PySem.call (.ref W.aDiv2) vs) [.int a, .int b, .int n] (.tuple [.int (a / b), .int (a % b)])
noncomputable abbrev Spec3 (C : Cfg) (W : Wd C) (k : Nat) (N : Nat) : Prop := ∀ (a12 a3 b b1 b2 : Int) (n : Nat), n ≤ N → 1 ≤ n → 2 ^ (n - 1) ≤ b1 → b1 < 2 ^ n → b = b1 * 2 ^ n + b2 → 0 ≤ b2 → b2 < 2 ^ n → 0 ≤ a3 → a3 < 2 ^ n → 0 ≤ a12 → a12 < b →
  Opn C k (fun vs => PySem.call (.ref W.aDiv3) vs) [.int a12, .int a3, .int b, .int b1, .int b2, .int n] (.tuple [.int ((a12 * 2 ^ n + a3) / b), .int ((a12 * 2 ^ n + a3) % b)])
theorem div3_of {C : Cfg} (W : Wd C) {k N : Nat} (hN : N ≤ 1000000) (H : Spec2 C W k N) : Spec3 C W (k + 1) N := by
  intro a12 a3 b b1 b2 n hn h1 hb1 hb1' hb hb2 hb2' ha3 ha3' ha12 ha12'
  have hp : (0 : Int) < 2 ^ n := two_pos n
  have hp1 : (0 : Int) < 2 ^ (n - 1) := two_pos _
  have hb0 : 0 < b := by
    have := Int.mul_pos (show 0 < b1 by omega) hp
    omega
  have hshr : a12.fdiv (2 ^ ((n : Int)).toNat) = a12 / 2 ^ n := by rw [Int.toNat_natCast]; exact fdiv_pos (Int.le_of_lt hp)
  refine Opn.ofDef ["a12", "a3", "b", "b1", "b2", "n"] [("n", .d (.int n)), ("b2", .d (.int b2)), ("b1", .d (.int b1)), ("b", .d (.int b)), ("a3", .d (.int a3)), ("a12", .d (.int a12))] W.st W.hDiv3
    (fun pm code doc vals h => len6_ h fun _ _ _ _ _ _ => rfl) (fun n hn => .inl ?_) rfl rfl (fun L pm code doc => ?_)
  · simp only [List.mem_cons, List.not_mem_nil, or_false] at hn
    rcases hn with rfl | rfl | rfl | rfl | rfl | rfl <;> rfl
  · let M : Int → Int → Mp := fun q r => [("q", .d (.int q)), ("r", .d (.int r)), ("n", .d (.int n)), ("b2", .d (.int b2)), ("b1", .d (.int b1)), ("b", .d (.int b)), ("a3", .d (.int a3)), ("a12", .d (.int a12))]
    have rest : ∀ q r : Int, a12 = q * b1 + r → 0 ≤ r → r < 2 ^ (n + 1) → 0 ≤ q → q < 2 ^ n → r * 2 ^ n + a3 - q * b2 < b → Do C C.T k (callEnvC (dDiv3.data pm code doc) L W.aDiv3) false (dDiv3.body.drop 1) (M q r) fun f _ =>
        f = Fl.ret (PyData.tuple [PyData.int ((a12 * 2 ^ n + a3) / b), PyData.int ((a12 * 2 ^ n + a3) % b)]) ∨ f = Fl.next ∧ PyData.tuple [PyData.int ((a12 * 2 ^ n + a3) / b), PyData.int ((a12 * 2 ^ n + a3) % b)] = PyData.none := by
      intro q r hq hr0 hr1 hq0 hq1 hR
      have hA := div_step (A := a12 * 2 ^ n + a3) (n := n) hb rfl hq
      have hor : Builtin.bitOr (r * 2 ^ n) a3 = r * 2 ^ n + a3 := or_add hr0 ha3 n ha3'
      refine Do.cons (DoS.assign ⟨.inl rfl, nofun⟩ (d := .int (r * 2 ^ n + a3 - q * b2)) (Ev.cast (d' := .int (Builtin.bitOr (r * 2 ^ ((n : Int)).toNat) a3 - q * b2)) ?_ (by rw [Int.toNat_natCast, hor])) ?_)
      · walk_at "ev"
        · omega
        · have := bits_le (natAbs_lt hr0 hr1); omega
        · exact mul_ok (natAbs_lt hq0 hq1) (natAbs_lt hb2 hb2') (by omega)
      · dsimp only
        refine Do.cons (DoS.while (fun j m' => ∃ q R : Int, Sub m' (M q R) ∧ a12 * 2 ^ n + a3 = q * b + R ∧ R < b ∧ j = (-R).toNat) (fun j m' hi => ?_) (-(r * 2 ^ n + a3 - q * b2)).toNat ⟨q, _, SubL.sub (by repeat (first | exact trivial | refine ⟨rfl, ?_⟩)), hA, hR, rfl⟩)
        obtain ⟨q, R, hs, hA, hR, rfl⟩ := hi
        refine ⟨decide (R < 0), Te.sub (m := M q R) ?_ hs, fun ht => Do.sub (m := M q R) ?_ hs, fun hf => Do.sub (m := M q R) ?_ hs⟩
        · walk_at "ev"
        · have ht := of_decide_eq_true ht
          refine Do.cons (DoS.aug (d0 := .int q) (d1 := .int 1) (d := .int (q - 1)) ⟨.inl rfl, nofun⟩ rfl ?_ op_isub ?_)
          · walk_at "ev"
          · refine Do.cons (DoS.aug (d0 := .int R) (d1 := .int b) (d := .int (R + b)) ⟨.inl rfl, nofun⟩ rfl ?_ op_iadd ?_)
            · walk_at "ev"
            · refine Do.nil ⟨(-(R + b)).toNat, by omega, q - 1, R + b, SubL.sub (by repeat (first | exact trivial | refine ⟨rfl, ?_⟩)), ?_, by omega, rfl⟩
              rw [hA, Int.sub_mul]; omega
        · have hf := of_decide_eq_false hf
          obtain ⟨e1, e2⟩ := div_unique hb0 hA (by omega) hR
          rw [e1, e2]
          refine Do.cons (DoS.ret ?_ (.inl rfl))
          walk_at "ev"
    refine Do.cons (DoS.ite (b := (a12.fdiv (2 ^ ((n : Int)).toNat) == b1)) ?_ (fun ht => ?_) (fun hf => ?_))
    · walk_at "ev"
      omega
    · rw [hshr] at ht
      have ht : a12 / 2 ^ n = b1 := by simpa using ht
      have hdm := Int.mul_ediv_add_emod a12 (2 ^ n)
      have hm0 := Int.emod_nonneg a12 (Int.ne_of_gt hp)
      rw [ht] at hdm
      have hcm : 2 ^ n * b1 = b1 * 2 ^ n := Int.mul_comm _ _
      refine Do.cons (DoS.assign2s ⟨.inl rfl, nofun⟩ ⟨.inl rfl, nofun⟩ (d1 := .int (1 * 2 ^ ((n : Int)).toNat - 1)) (d2 := .int (a12 - b1 * 2 ^ ((n : Int)).toNat + b1)) ?_ ?_)
      · walk_at "ev"
        · omega
        · have := bits_le (a := 1) (k := 1) (by decide); omega
        · omega
        · have := bits_le (natAbs_lt (by omega) hb1'); omega
      · dsimp only
        refine Do.nil (Do.sub (rest (2 ^ n - 1) (a12 - b1 * 2 ^ n + b1) ?_ (by omega) ?_ (by omega) (by omega) ?_) (SubL.sub ?_))
        · rw [Int.sub_mul]; omega
        · rw [nat_pow_add, Int.mul_comm]; omega
        · have e1 : (a12 - b1 * 2 ^ n + b1) * 2 ^ n = (a12 - b1 * 2 ^ n) * 2 ^ n + b1 * 2 ^ n := Int.add_mul _ _ _
          have e2 : (2 ^ n - 1) * b2 = b2 * 2 ^ n - b2 := by rw [Int.sub_mul, Int.mul_comm]; omega
          have e3 : (a12 - b1 * 2 ^ n) * 2 ^ n ≤ (b2 - 1) * 2 ^ n := Int.mul_le_mul_of_nonneg_right (by omega) (Int.le_of_lt hp)
          have e4 : (b2 - 1) * 2 ^ n = b2 * 2 ^ n - 2 ^ n := by rw [Int.sub_mul]; omega
          rw [e1, e2]; omega
        · rw [Int.toNat_natCast, Int.one_mul]
          repeat (first | exact trivial | refine ⟨rfl, ?_⟩)
    · rw [hshr] at hf
      have hf : ¬ a12 / 2 ^ n = b1 := by simpa using hf
      have hdm := Int.mul_ediv_add_emod a12 (2 ^ n)
      have hm0 := Int.emod_nonneg a12 (Int.ne_of_gt hp)
      have hm1 := Int.emod_lt_of_pos a12 hp
      have hlt : a12 < b1 * 2 ^ n := by
        have h6 : a12 < (b1 + 1) * 2 ^ n := by rw [Int.add_mul]; omega
        have h7 : a12 / 2 ^ n < b1 + 1 := Int.ediv_lt_of_lt_mul hp h6
        have h8 : a12 / 2 ^ n + 1 ≤ b1 := by omega
        have h9 := Int.mul_le_mul_of_nonneg_right h8 (Int.le_of_lt hp)
        rw [Int.add_mul, Int.mul_comm (a12 / 2 ^ n)] at h9
        omega
      have hb1p : 0 < b1 := by omega
      have hq0 := Int.ediv_nonneg ha12 (Int.le_of_lt hb1p)
      have hr0 := Int.emod_nonneg a12 (Int.ne_of_gt hb1p)
      have hr1 := Int.emod_lt_of_pos a12 hb1p
      have hdm2 := Int.mul_ediv_add_emod a12 b1
      have hq1 : a12 / b1 < 2 ^ n := Int.ediv_lt_of_lt_mul hb1p (by rw [Int.mul_comm]; exact hlt)
      have hc := H a12 b1 n hn h1 hb1 hb1' ha12 hlt
      refine Do.cons (DoS.assign2 ⟨.inl rfl, nofun⟩ ⟨.inl rfl, nofun⟩ (d1 := .int (a12 / b1)) (d2 := .int (a12 % b1)) (Ev.fn W W.hDiv2 rfl rfl (by decide) ?_ ?_ hc (Nat.le_refl _)) ?_)
      · walk_at "ev"
      · walk_at "ev"
      · dsimp only
        refine Do.nil (Do.sub (rest (a12 / b1) (a12 % b1) ?_ hr0 ?_ hq0 hq1 ?_) (SubL.sub (by repeat (first | exact trivial | refine ⟨rfl, ?_⟩))))
        · rw [Int.mul_comm]; omega
        · rw [nat_pow_add]; omega
        · have e1 : (a12 % b1) * 2 ^ n ≤ (b1 - 1) * 2 ^ n := Int.mul_le_mul_of_nonneg_right (by omega) (Int.le_of_lt hp)
          have e2 : (b1 - 1) * 2 ^ n = b1 * 2 ^ n - 2 ^ n := by rw [Int.sub_mul]; omega
          have e3 := Int.mul_nonneg hq0 hb2
          omega

theorem bits_exact {b : Int} {n : Nat} (h1 : 1 ≤ n) (hb : 2 ^ (n - 1) ≤ b) (hb' : b < 2 ^ n) : Builtin.Int.intBits b = n := by
  have hp1 : (0 : Int) < 2 ^ (n - 1) := two_pos _
  have h2 := bits_bound (by omega) hb'
  have h3 : 2 ^ (n - 1) ≤ b.natAbs := by
    have : ((2 ^ (n - 1) : Nat) : Int) ≤ (b.natAbs : Int) := by rw [Int.natAbs_of_nonneg (by omega), pow_cast]; exact hb
    exact_mod_cast this
  have h4 := bits_ge h3
  omega
/-- the upper half of the division, once the length is even -/
theorem div2_even {C : Cfg} (W : Wd C) {k : Nat} {a b : Int} {h : Nat} (hh : 1 ≤ h) (hbig : h ≤ 1000000) (hb : 2 ^ (2 * h - 1) ≤ b) (hb' : b < 2 ^ (2 * h)) (ha : 0 ≤ a) (ha' : a < b * 2 ^ (2 * h)) (H : Spec3 C W k h) (L : Addr) (pm code doc : Value) (pad : Int)
    (A B n : Int) (res : PyData) (hres : res = .tuple [.int (a / b), .int (if pad = 0 then a % b else (a % b) / 2)]) :
    Do C C.T k (callEnvC (dDiv2.data pm code doc) L W.aDiv2) false (dDiv2.body.drop 3) [("a", .d (.int a)), ("b", .d (.int b)), ("n", .d (.int ((2 * h : Nat) : Int))), ("pad", .d (.int pad))] fun f _ => f = Fl.ret res ∨ f = Fl.next ∧ res = PyData.none := by
  have hp : (0 : Int) < 2 ^ h := two_pos h
  have hph : (0 : Int) < 2 ^ (h - 1) := two_pos _
  have hhh : (2 : Int) ^ (2 * h) = 2 ^ h * 2 ^ h := by rw [show 2 * h = h + h by omega, nat_pow_add]
  have hb0 : 0 < b := by have := two_pos (2 * h - 1); omega
  have bdm := Int.mul_ediv_add_emod b (2 ^ h)
  have bm0 := Int.emod_nonneg b (Int.ne_of_gt hp)
  have bm1 := Int.emod_lt_of_pos b hp
  have adm := Int.mul_ediv_add_emod a (2 ^ h)
  have am0 := Int.emod_nonneg a (Int.ne_of_gt hp)
  have am1 := Int.emod_lt_of_pos a hp
  have ah0 := Int.ediv_nonneg ha (Int.le_of_lt hp)
  have ahm0 := Int.emod_nonneg (a / 2 ^ h) (Int.ne_of_gt hp)
  have ahm1 := Int.emod_lt_of_pos (a / 2 ^ h) hp
  have ahdm := Int.mul_ediv_add_emod (a / 2 ^ h) (2 ^ h)
  have hdd : a / 2 ^ h / 2 ^ h = a / 2 ^ (2 * h) := by rw [Int.ediv_ediv_of_nonneg (Int.le_of_lt hp), hhh]
  have a12_0 : 0 ≤ a / 2 ^ (2 * h) := Int.ediv_nonneg ha (Int.le_of_lt (two_pos _))
  have a12_1 : a / 2 ^ (2 * h) < b := Int.ediv_lt_of_lt_mul (two_pos _) ha'
  have b1lo : 2 ^ (h - 1) ≤ b / 2 ^ h := by
    rw [Int.le_ediv_iff_mul_le hp, ← nat_pow_add, show h - 1 + h = 2 * h - 1 by omega]; exact hb
  have b1hi : b / 2 ^ h < 2 ^ h := Int.ediv_lt_of_lt_mul hp (by rw [← hhh]; exact hb')
  have beq : b = b / 2 ^ h * 2 ^ h + b % 2 ^ h := by rw [Int.mul_comm (b / 2 ^ h)]; omega
  have tn : (((h : Nat) : Int)).toNat = h := Int.toNat_natCast h
  have sh : ∀ x : Int, x.fdiv (2 ^ (((h : Nat) : Int)).toNat) = x / 2 ^ h := fun x => by rw [tn]; exact fdiv_pos (Int.le_of_lt hp)
  have sh2 : ∀ x : Int, x.fdiv (2 ^ (((2 * h : Nat) : Int)).toNat) = x / 2 ^ (2 * h) := fun x => by rw [Int.toNat_natCast]; exact fdiv_pos (Int.le_of_lt (two_pos _))
  have half : (((2 * h : Nat) : Int)).fdiv (2 ^ (1 : Int).toNat) = ((h : Nat) : Int) := by
    rw [fdiv_pos (by decide)]
    show ((2 * h : Nat) : Int) / 2 ^ 1 = h
    omega
  have mask : (1 : Int) * 2 ^ (((h : Nat) : Int)).toNat - 1 = 2 ^ h - 1 := by rw [tn, Int.one_mul]
  -- the two steps of the division
  have c1 := H (a / 2 ^ (2 * h)) (a / 2 ^ h % 2 ^ h) b (b / 2 ^ h) (b % 2 ^ h) h (Nat.le_refl _) hh b1lo b1hi beq bm0 bm1 ahm0 ahm1 a12_0 a12_1
  have e1 : a / 2 ^ (2 * h) * 2 ^ h + a / 2 ^ h % 2 ^ h = a / 2 ^ h := by rw [← hdd, Int.mul_comm]; exact ahdm
  rw [e1] at c1
  have r1_0 := Int.emod_nonneg (a / 2 ^ h) (Int.ne_of_gt hb0)
  have r1_1 := Int.emod_lt_of_pos (a / 2 ^ h) hb0
  have c2 := H (a / 2 ^ h % b) (a % 2 ^ h) b (b / 2 ^ h) (b % 2 ^ h) h (Nat.le_refl _) hh b1lo b1hi beq bm0 bm1 am0 am1 r1_0 r1_1
  have q1_0 := Int.ediv_nonneg ah0 (Int.le_of_lt hb0)
  have d1 := Int.mul_ediv_add_emod (a / 2 ^ h) b
  have d2 := Int.mul_ediv_add_emod (a / 2 ^ h % b * 2 ^ h + a % 2 ^ h) b
  have R2_0 := Int.emod_nonneg (a / 2 ^ h % b * 2 ^ h + a % 2 ^ h) (Int.ne_of_gt hb0)
  have R2_1 := Int.emod_lt_of_pos (a / 2 ^ h % b * 2 ^ h + a % 2 ^ h) hb0
  have q2_0 : 0 ≤ (a / 2 ^ h % b * 2 ^ h + a % 2 ^ h) / b := Int.ediv_nonneg (by have := Int.mul_nonneg r1_0 (Int.le_of_lt hp); omega) (Int.le_of_lt hb0)
  have q2_1 : (a / 2 ^ h % b * 2 ^ h + a % 2 ^ h) / b < 2 ^ h := Int.ediv_lt_of_lt_mul hb0 (by
    have h1 : (a / 2 ^ h % b) * 2 ^ h ≤ (b - 1) * 2 ^ h := Int.mul_le_mul_of_nonneg_right (by omega) (Int.le_of_lt hp)
    have h2 : (b - 1) * 2 ^ h = 2 ^ h * b - 2 ^ h := by rw [Int.sub_mul, Int.mul_comm]; omega
    omega)
  have fin := div_unique (A := a) (b := b) (q := a / 2 ^ h / b * 2 ^ h + (a / 2 ^ h % b * 2 ^ h + a % 2 ^ h) / b) (r := (a / 2 ^ h % b * 2 ^ h + a % 2 ^ h) % b) hb0 (by
    have h1 : (a / 2 ^ h) * 2 ^ h = (b * (a / 2 ^ h / b) + a / 2 ^ h % b) * 2 ^ h := by rw [d1]
    rw [Int.add_mul] at h1
    rw [Int.add_mul]
    have h2 : a / 2 ^ h / b * 2 ^ h * b = b * (a / 2 ^ h / b) * 2 ^ h := by rw [Int.mul_comm, ← Int.mul_assoc]
    have h3 : (a / 2 ^ h % b * 2 ^ h + a % 2 ^ h) / b * b = b * ((a / 2 ^ h % b * 2 ^ h + a % 2 ^ h) / b) := Int.mul_comm _ _
    have h4 : (a / 2 ^ h) * 2 ^ h = 2 ^ h * (a / 2 ^ h) := Int.mul_comm _ _
    omega) R2_0 R2_1
  have q1_1 : a / 2 ^ h / b < 2 ^ h := Int.ediv_lt_of_lt_mul hb0 (Int.ediv_lt_of_lt_mul hp (by
    have : 2 ^ h * b * 2 ^ h = b * 2 ^ (2 * h) := by rw [hhh, Int.mul_comm (2 ^ h) b, Int.mul_assoc]
    omega))
  subst hres
  refine Do.cons (DoS.assign ⟨.inl rfl, nofun⟩ (d := .int h) (Ev.cast (d' := .int ((((2 * h : Nat) : Int)).fdiv (2 ^ (1 : Int).toNat))) ?_ (by rw [half])) ?_)
  · walk_at "ev"
    decide
  dsimp only
  refine Do.cons (DoS.assign ⟨.inl rfl, nofun⟩ (d := .int (2 ^ h - 1)) (Ev.cast (d' := .int ((1 : Int) * 2 ^ (((h : Nat) : Int)).toNat - 1)) ?_ (by rw [mask])) ?_)
  · walk_at "ev"
    · omega
    · have := bits_le (a := 1) (k := 1) (by decide); omega
  dsimp only
  refine Do.cons (DoS.assign2s ⟨.inl rfl, nofun⟩ ⟨.inl rfl, nofun⟩ (d1 := .int (b / 2 ^ h)) (d2 := .int (b % 2 ^ h)) (Ev.cast (d' := .tuple [.int (b.fdiv (2 ^ (((h : Nat) : Int)).toNat)), .int (Builtin.bitAnd b (2 ^ h - 1))]) ?_ (by rw [sh, and_mask (Int.le_of_lt hb0)])) ?_)
  · walk_at "ev"
    omega
  dsimp only
  refine Do.cons (DoS.assign2 ⟨.inl rfl, nofun⟩ ⟨.inl rfl, nofun⟩ (Ev.fn (ds := [.int (a / 2 ^ (2 * h)), .int (a / 2 ^ h % 2 ^ h), .int b, .int (b / 2 ^ h), .int (b % 2 ^ h), .int h]) W W.hDiv3 rfl rfl (by decide) ?_ ?_ c1 (Nat.le_refl _)) ?_)
  · walk_at "ev"
  · refine Evs.cons' rfl (Ev.cast (d' := .int (a.fdiv (2 ^ (((2 * h : Nat) : Int)).toNat))) ?_ (by rw [sh2])) (Evs.cons' rfl (Ev.cast (d' := .int (Builtin.bitAnd (a.fdiv (2 ^ (((h : Nat) : Int)).toNat)) (2 ^ h - 1))) ?_ (by rw [sh, and_mask ah0])) ?_)
    · walk_at "ev"
      omega
    · walk_at "ev"
      omega
    · walk_at "ev"
  dsimp only
  refine Do.cons (DoS.assign2 ⟨.inl rfl, nofun⟩ ⟨.inl rfl, nofun⟩ (Ev.fn (ds := [.int (a / 2 ^ h % b), .int (a % 2 ^ h), .int b, .int (b / 2 ^ h), .int (b % 2 ^ h), .int h]) W W.hDiv3 rfl rfl (by decide) ?_ ?_ c2 (Nat.le_refl _)) ?_)
  · walk_at "ev"
  · refine Evs.cons' rfl ?_ (Evs.cons' rfl (Ev.cast (d' := .int (Builtin.bitAnd a (2 ^ h - 1))) ?_ (by rw [and_mask ha])) ?_)
    · walk_at "ev"
    · walk_at "ev"
    · walk_at "ev"
  dsimp only
  have last : ∀ (r : Int) (m : Mp), Sub m [("q1", .d (.int (a / 2 ^ h / b))), ("q2", .d (.int ((a / 2 ^ h % b * 2 ^ h + a % 2 ^ h) / b))), ("r", .d (.int r)), ("half_n", .d (.int h))] →
      Do C C.T k (callEnvC (dDiv2.data pm code doc) L W.aDiv2) false (dDiv2.body.drop 9) m fun f _ => f = Fl.ret (.tuple [.int (a / b), .int r]) ∨ f = Fl.next ∧ PyData.tuple [.int (a / b), .int r] = PyData.none := by
    intro r m hs
    refine Do.sub (Do.cons (DoS.ret (d := .tuple [.int (a / b), .int r]) (Ev.cast (d' := .tuple [.int (Builtin.bitOr (a / 2 ^ h / b * 2 ^ (((h : Nat) : Int)).toNat) ((a / 2 ^ h % b * 2 ^ h + a % 2 ^ h) / b)), .int r]) ?_ ?_) (.inl rfl))) hs
    · walk_at "ev"
      · omega
      · have := bits_bound q1_0 q1_1; omega
    · rw [tn, or_add q1_0 q2_0 h q2_1, fin.1]
  by_cases hpad : pad = 0
  · subst hpad
    refine Do.cons (DoS.ite (b := false) ?_ nofun (fun _ => Do.nil ?_))
    · refine Te.cast (b' := (0 : Int) != 0) ?_ rfl
      walk_at "ev"
    · dsimp only
      rw [if_pos rfl, fin.2]
      exact last _ _ (SubL.sub (by repeat (first | exact trivial | refine ⟨rfl, ?_⟩)))
  · refine Do.cons (DoS.ite (b := true) ?_ (fun _ => ?_) nofun)
    · refine Te.cast (b' := pad != 0) ?_ (by simpa using hpad)
      walk_at "ev"
    · refine Do.cons (DoS.aug (d0 := .int ((a / 2 ^ h % b * 2 ^ h + a % 2 ^ h) % b)) (d1 := .int 1) (d := .int (((a / 2 ^ h % b * 2 ^ h + a % 2 ^ h) % b).fdiv (2 ^ (1 : Int).toNat))) ⟨.inl rfl, nofun⟩ rfl ?_ (op_irshift (by decide)) (Do.nil ?_))
      · walk_at "ev"
      · dsimp only
        rw [if_neg hpad]
        have : ((a / 2 ^ h % b * 2 ^ h + a % 2 ^ h) % b).fdiv (2 ^ (1 : Int).toNat) = a % b / 2 := by rw [fin.2]; exact fdiv_pos (by decide)
        rw [this]
        exact last _ _ (SubL.sub (by repeat (first | exact trivial | refine ⟨rfl, ?_⟩)))

theorem div2_of {C : Cfg} (W : Wd C) {k N : Nat} (hN : N ≤ 1000000) (H : ∀ h, 2 * h ≤ N + 1 → 4000 < 2 * h → Spec3 C W k h) : Spec2 C W (k + 1) N := by
  intro a b n hn h1 hb hb' ha ha'
  have hp1 : (0 : Int) < 2 ^ (n - 1) := two_pos _
  have hp : (0 : Int) < 2 ^ n := two_pos _
  have hb0 : 0 < b := by omega
  have hbb := bits_exact h1 hb hb'
  have hab : Builtin.Int.intBits a ≤ 2 * n := bits_bound ha (by
    have : b * 2 ^ n ≤ 2 ^ n * 2 ^ n := Int.mul_le_mul_of_nonneg_right (by omega) (by omega)
    rw [← nat_pow_add, ← Nat.two_mul] at this
    omega)
  refine Opn.ofDef ["a", "b", "n"] [("n", .d (.int n)), ("b", .d (.int b)), ("a", .d (.int a))] W.st W.hDiv2
    (fun pm code doc vals h => len3_ h fun _ _ _ => rfl) (fun n hn => .inl ?_) rfl rfl (fun L pm code doc => ?_)
  · simp only [List.mem_cons, List.not_mem_nil, or_false] at hn
    rcases hn with rfl | rfl | rfl <;> rfl
  refine Do.cons (DoS.ite (b := decide ((Builtin.Int.intBits a : Int) - n ≤ 4000)) ?_ (fun ht => ?_) (fun hf => ?_))
  · walk_at "ev"
  · have ht := of_decide_eq_true ht
    refine Do.cons (DoS.ret (d := .tuple [.int (a / b), .int (a % b)]) (Ev.cast (d' := .tuple [.int (a.fdiv b), .int (a.fmod b)]) ?_ (by rw [fdiv_pos (Int.le_of_lt hb0), fmod_pos (Int.le_of_lt hb0)])) (.inl rfl))
    walk_at "ev"
    · omega
    · exact no_pylong (by omega) (by omega)
  · have hf := of_decide_eq_false hf
    have hbig : 4000 < n := by omega
    refine Do.nil ?_
    dsimp only
    have land : Builtin.bitAnd (n : Int) 1 = ((n % 2 : Nat) : Int) := by
      have := and_mask (a := (n : Int)) (by omega) 1
      rw [show (2 : Int) ^ 1 - 1 = 1 by decide] at this
      rw [this]
      omega
    refine Do.cons (DoS.assign ⟨.inl rfl, nofun⟩ (d := .int ((n % 2 : Nat) : Int)) (Ev.cast (d' := .int (Builtin.bitAnd (n : Int) 1)) ?_ (by rw [land])) ?_)
    · walk_at "ev"
    dsimp only
    by_cases hpar : n % 2 = 0
    · obtain ⟨h, rfl⟩ : ∃ h, n = 2 * h := ⟨n / 2, by omega⟩
      rw [hpar]
      refine Do.cons (DoS.ite (b := false) ?_ nofun (fun _ => Do.nil ?_))
      · refine Te.cast (b' := ((0 : Nat) : Int) != 0) ?_ rfl
        walk_at "ev"
      · dsimp only
        exact Do.sub (div2_even W (a := a) (b := b) (h := h) (by omega) (by omega) hb hb' ha ha' (H h (by omega) (by omega)) L pm code doc 0 a b 0 _ (by rw [if_pos rfl])) (SubL.sub (by repeat (first | exact trivial | refine ⟨rfl, ?_⟩)))
    · have hpar : n % 2 = 1 := by omega
      obtain ⟨h, hh⟩ : ∃ h, n + 1 = 2 * h := ⟨(n + 1) / 2, by omega⟩
      rw [hpar]
      have e1 : (a * 2 ^ (1 : Int).toNat) = 2 * a := by show a * 2 ^ 1 = 2 * a; omega
      have e2 : (b * 2 ^ (1 : Int).toNat) = 2 * b := by show b * 2 ^ 1 = 2 * b; omega
      have e3 : (n : Int) + 1 = ((2 * h : Nat) : Int) := by omega
      refine Do.cons (DoS.ite (b := true) ?_ (fun _ => ?_) nofun)
      · refine Te.cast (b' := ((1 : Nat) : Int) != 0) ?_ rfl
        walk_at "ev"
      · refine Do.cons (DoS.aug (d0 := .int a) (d1 := .int 1) (d := .int (2 * a)) ⟨.inl rfl, nofun⟩ rfl ?_ (e1 ▸ op_ilshift (by decide) (by omega)) ?_)
        · walk_at "ev"
        dsimp only
        refine Do.cons (DoS.aug (d0 := .int b) (d1 := .int 1) (d := .int (2 * b)) ⟨.inl rfl, nofun⟩ rfl ?_ (e2 ▸ op_ilshift (by decide) (by omega)) ?_)
        · walk_at "ev"
        dsimp only
        refine Do.cons (DoS.aug (d0 := .int n) (d1 := .int 1) (d := .int ((2 * h : Nat) : Int)) ⟨.inl rfl, nofun⟩ rfl ?_ (e3 ▸ op_iadd (a := ((n : Nat) : Int)) (b := 1)) (Do.nil ?_))
        · walk_at "ev"
        dsimp only
        have p1 : (2 : Int) ^ (2 * h - 1) = 2 * 2 ^ (n - 1) := by rw [show 2 * h - 1 = (n - 1) + 1 by omega, nat_pow_add]; omega
        have p2 : (2 : Int) ^ (2 * h) = 2 * 2 ^ n := by rw [show 2 * h = n + 1 by omega, nat_pow_add]; omega
        have hlt : 2 * a < 2 * b * 2 ^ (2 * h) := by
          rw [p2]
          have : 2 * b * (2 * 2 ^ n) = 4 * (b * 2 ^ n) := by rw [Int.mul_assoc, Int.mul_left_comm b]; omega
          rw [this]; omega
        refine Do.sub (div2_even W (a := 2 * a) (b := 2 * b) (h := h) (by omega) (by omega) (by rw [p1]; omega) (by rw [p2]; omega) (by omega) hlt (H h (by omega) (by omega)) L pm code doc ((1 : Nat) : Int) a b n _ ?_) (SubL.sub (by repeat (first | exact trivial | refine ⟨rfl, ?_⟩)))
        rw [if_neg (by decide), Int.mul_ediv_mul_of_pos _ _ (by decide), Int.mul_emod_mul_of_pos _ _ (by decide)]
        congr 4
        omega
theorem div2_0 {C : Cfg} (W : Wd C) : Spec2 C W 1 4000 := div2_of W (k := 0) (N := 4000) (by decide) fun h h1 h2 => absurd h1 (by omega)
theorem Spec2.le {C : Cfg} {W : Wd C} {k N M : Nat} (h : Spec2 C W k N) (hM : M ≤ N) : Spec2 C W k M := fun a b n hn => h a b n (Nat.le_trans hn hM)
theorem Spec3.le {C : Cfg} {W : Wd C} {k N M : Nat} (h : Spec3 C W k N) (hM : M ≤ N) : Spec3 C W k M := fun a b c d e n hn => h a b c d e n (Nat.le_trans hn hM)
theorem div2_1 {C : Cfg} (W : Wd C) : Spec2 C W 3 7999 := div2_of W (k := 2) (by decide) fun h h1 h2 => (div3_of W (by decide) (div2_0 W)).le (by omega)
theorem div2_2 {C : Cfg} (W : Wd C) : Spec2 C W 5 15997 := div2_of W (k := 4) (by decide) fun h h1 h2 => (div3_of W (by decide) (div2_1 W)).le (by omega)

noncomputable def quos (b : Int) (n : Nat) : Int → List Int → List Int
  | _, [] => []
  | r, d :: ds => (r * 2 ^ n + d) / b :: quos b n ((r * 2 ^ n + d) % b) ds
noncomputable def rems (b : Int) (n : Nat) : Int → List Int → Int
  | r, [] => r
  | r, d :: ds => rems b n ((r * 2 ^ n + d) % b) ds
theorem quos_length (b : Int) (n : Nat) : ∀ (ds : List Int) (r : Int), (quos b n r ds).length = ds.length
  | [], _ => rfl
  | _ :: ds, _ => by rw [quos, List.length_cons, quos_length b n ds, List.length_cons]
theorem quos_snoc (b : Int) (n : Nat) (d : Int) : ∀ (ds : List Int) (r : Int), quos b n r (ds ++ [d]) = quos b n r ds ++ [(rems b n r ds * 2 ^ n + d) / b]
  | [], _ => rfl
  | e :: ds, r => by rw [List.cons_append, quos, quos_snoc b n d ds, quos, rems, List.cons_append]
theorem rems_snoc (b : Int) (n : Nat) (d : Int) : ∀ (ds : List Int) (r : Int), rems b n r (ds ++ [d]) = (rems b n r ds * 2 ^ n + d) % b
  | [], _ => rfl
  | e :: ds, r => by rw [List.cons_append, rems, rems_snoc b n d ds, rems]
theorem rems_bound {b : Int} (hb : 0 < b) (n : Nat) : ∀ (ds : List Int) (r : Int), 0 ≤ r → r < b → 0 ≤ rems b n r ds ∧ rems b n r ds < b
  | [], _, h0, h1 => ⟨h0, h1⟩
  | _ :: ds, _, h0, h1 => rems_bound hb n ds _ (Int.emod_nonneg _ (Int.ne_of_gt hb)) (Int.emod_lt_of_pos _ hb)
/-- one turn's number -/
theorem turn_bound {r d b : Int} {n : Nat} (h0 : 0 ≤ r) (h1 : r < b) (d0 : 0 ≤ d) (d1 : d < 2 ^ n) : 0 ≤ r * 2 ^ n + d ∧ r * 2 ^ n + d < b * 2 ^ n := by
  have hp := two_pos n
  have e1 : 0 ≤ r * 2 ^ n := Int.mul_nonneg h0 (Int.le_of_lt hp)
  have e2 : r * 2 ^ n ≤ (b - 1) * 2 ^ n := Int.mul_le_mul_of_nonneg_right (by omega) (Int.le_of_lt hp)
  rw [Int.sub_mul, Int.one_mul] at e2
  omega
theorem quos_bound {b : Int} (hb : 0 < b) (n : Nat) : ∀ (ds : List Int) (r : Int), 0 ≤ r → r < b → (∀ d ∈ ds, 0 ≤ d ∧ d < 2 ^ n) → ∀ q ∈ quos b n r ds, 0 ≤ q ∧ q < 2 ^ n
  | [], _, _, _, _ => nofun
  | d :: ds, r, h0, h1, hd => fun q hq => by
    obtain ⟨t0, t1⟩ := turn_bound h0 h1 (hd d (.head _)).1 (hd d (.head _)).2
    rcases List.mem_cons.mp hq with rfl | hq
    · exact ⟨Int.ediv_nonneg t0 (Int.le_of_lt hb), Int.ediv_lt_of_lt_mul hb (by rw [Int.mul_comm (2 ^ n) b]; exact t1)⟩
    · exact quos_bound hb n ds _ (Int.emod_nonneg _ (Int.ne_of_gt hb)) (Int.emod_lt_of_pos _ hb) (fun x hx => hd x (.tail _ hx)) q hq
theorem quos_val {b : Int} (hb : 0 < b) (n : Nat) : ∀ (ds : List Int) (r : Int), 0 ≤ r → r < b → (∀ d ∈ ds, 0 ≤ d ∧ d < 2 ^ n) →
    valD n (quos b n r ds).reverse = (r * 2 ^ (n * ds.length) + valD n ds.reverse) / b ∧ rems b n r ds = (r * 2 ^ (n * ds.length) + valD n ds.reverse) % b
  | [], r, h0, h1, _ => by
    have e : r * 2 ^ (n * ([] : List Int).length) + valD n ([] : List Int).reverse = r := by simp [valD]
    rw [e, Int.ediv_eq_zero_of_lt h0 h1, Int.emod_eq_of_lt h0 h1]
    exact ⟨rfl, rfl⟩
  | d :: ds, r, h0, h1, hd => by
    obtain ⟨i1, i2⟩ := quos_val hb n ds ((r * 2 ^ n + d) % b) (Int.emod_nonneg _ (Int.ne_of_gt hb)) (Int.emod_lt_of_pos _ hb) (fun x hx => hd x (.tail _ hx))
    have e1 : valD n (d :: ds).reverse = valD n ds.reverse + 2 ^ (n * ds.length) * d := by
      rw [List.reverse_cons, valD_append, List.length_reverse]; simp [valD]
    have e2 : valD n (quos b n r (d :: ds)).reverse = valD n (quos b n ((r * 2 ^ n + d) % b) ds).reverse + 2 ^ (n * ds.length) * ((r * 2 ^ n + d) / b) := by
      rw [quos, List.reverse_cons, valD_append, List.length_reverse, quos_length]; simp [valD]
    rw [e1, e2, i1, rems, i2, List.length_cons, Nat.mul_succ, nat_pow_add]
    have e3 : r * (2 ^ (n * ds.length) * 2 ^ n) + (valD n ds.reverse + 2 ^ (n * ds.length) * d) = (r * 2 ^ n + d) % b * 2 ^ (n * ds.length) + valD n ds.reverse + 2 ^ (n * ds.length) * ((r * 2 ^ n + d) / b) * b := by
      have h := Int.mul_ediv_add_emod (r * 2 ^ n + d) b
      have h' : 2 ^ (n * ds.length) * (b * ((r * 2 ^ n + d) / b)) + 2 ^ (n * ds.length) * ((r * 2 ^ n + d) % b) = 2 ^ (n * ds.length) * (r * 2 ^ n) + 2 ^ (n * ds.length) * d := by rw [← Int.mul_add, h, Int.mul_add]
      rw [show r * (2 ^ (n * ds.length) * 2 ^ n) = 2 ^ (n * ds.length) * (r * 2 ^ n) by rw [Int.mul_left_comm], show (r * 2 ^ n + d) % b * 2 ^ (n * ds.length) = 2 ^ (n * ds.length) * ((r * 2 ^ n + d) % b) from Int.mul_comm _ _,
        show 2 ^ (n * ds.length) * ((r * 2 ^ n + d) / b) * b = 2 ^ (n * ds.length) * (b * ((r * 2 ^ n + d) / b)) by rw [Int.mul_assoc, Int.mul_comm b]]
      omega
    rw [e3, Int.add_mul_ediv_right _ _ (Int.ne_of_gt hb), Int.add_mul_emod_self_right]
    exact ⟨rfl, rfl⟩
theorem digs_mem (n : Nat) : ∀ (k : Nat) (x : Int), ∀ d ∈ digs n k x, 0 ≤ d ∧ d < 2 ^ n
  | 0, _ => nofun
  | k + 1, x => fun d hd => by
    rcases List.mem_cons.mp hd with rfl | hd
    · exact ⟨Int.emod_nonneg _ (Int.ne_of_gt (two_pos n)), Int.emod_lt_of_pos _ (two_pos n)⟩
    · exact digs_mem n k _ d hd
theorem digs_val (n : Nat) : ∀ (k : Nat) (x : Int), 0 ≤ x → x < 2 ^ (n * k) → valD n (digs n k x) = x
  | 0, x, h0, h1 => by
    rw [Nat.mul_zero] at h1
    have : (2 : Int) ^ 0 = 1 := rfl
    simp only [digs, valD]; omega
  | k + 1, x, h0, h1 => by
    rw [Nat.mul_succ, nat_pow_add] at h1
    rw [digs, valD, digs_val n k (x / 2 ^ n) (Int.ediv_nonneg h0 (Int.le_of_lt (two_pos n))) (Int.ediv_lt_of_lt_mul (two_pos n) h1)]
    have := Int.mul_ediv_add_emod x (2 ^ n)
    omega
theorem bits_rev {b : Int} (hb : 0 < b) : 1 ≤ Builtin.Int.intBits b ∧ 2 ^ (Builtin.Int.intBits b - 1) ≤ b ∧ b < 2 ^ Builtin.Int.intBits b := by
  have h1 : 1 ≤ Builtin.Int.intBits b := bits_ge (k := 0) (by show 1 ≤ b.natAbs; omega)
  have h2 := lt_bits b
  refine ⟨h1, ?_, by rw [← pow_cast]; omega⟩
  have h3 : ¬ b.natAbs < 2 ^ (Builtin.Int.intBits b - 1) := fun h => by have := bits_le h; omega
  rw [← pow_cast]; omega
theorem ceil_bits {n m : Nat} (hn : 1 ≤ n) : (m + n - 1) / n ≤ m := by
  by_cases hm : m = 0
  · subst hm; rw [Nat.div_eq_of_lt (by omega)]; exact Nat.le_refl _
  · refine Nat.div_le_of_le_mul ?_
    have := Nat.mul_le_mul_right (m - 1) hn
    have e : n * m = n * (m - 1) + n := by rw [← Nat.mul_succ]; congr 1; omega
    omega
theorem dp_spec {C : Cfg} (W : Wd C) {a b : Int} (ha : 0 ≤ a) (hab : Builtin.Int.intBits a ≤ 32768) (hb : 0 < b) (hbb : Builtin.Int.intBits b ≤ 15997) :
    Opn C 18 (fun vs => PySem.call (.ref W.aDP) vs) [.int a, .int b] (.tuple [.int (a / b), .int (a % b)]) := by
  obtain ⟨n, hn⟩ : ∃ n, n = Builtin.Int.intBits b := ⟨_, rfl⟩
  obtain ⟨b1, b2, b3⟩ := bits_rev hb
  rw [← hn] at b1 b2 b3 hbb
  obtain ⟨K, hK⟩ : ∃ K, K = (Builtin.Int.intBits a + n - 1) / n := ⟨_, rfl⟩
  have hKb : K ≤ 32768 := by rw [hK]; exact Nat.le_trans (ceil_bits b1) hab
  have hnK : n * K ≤ Builtin.Int.intBits a + n - 1 := by rw [hK]; exact Nat.mul_div_le _ _
  have haK : a < 2 ^ (n * K) := by
    have h3 : a.natAbs < 2 ^ (n * K) := Nat.lt_of_lt_of_le (lt_bits a) (Nat.pow_le_pow_right (by decide) (by
      have := Nat.lt_mul_div_succ (Builtin.Int.intBits a + n - 1) (show 0 < n by omega)
      rw [← hK, Nat.mul_add] at this; omega))
    rw [← pow_cast]; omega
  have c1 := i2d_spec W (n := n) (x := a) (K := K) (j := 15) ha b1 hK.symm (by omega) (by omega) (by omega) hKb
  obtain ⟨ds, hds⟩ : ∃ ds, ds = digs n K a := ⟨_, rfl⟩
  rw [← hds] at c1
  have dmem : ∀ d ∈ ds, 0 ≤ d ∧ d < 2 ^ n := hds ▸ digs_mem n K a
  have dlen : ds.length = K := hds ▸ digs_length n K a
  have rmem : ∀ d ∈ ds.reverse, 0 ≤ d ∧ d < 2 ^ n := fun d hd => dmem d (List.mem_reverse.mp hd)
  have qv := quos_val hb n ds.reverse 0 (Int.le_refl 0) hb rmem
  rw [List.reverse_reverse, Int.zero_mul, Int.zero_add] at qv
  have dval : valD n ds = a := hds ▸ digs_val n K a ha haK
  rw [dval] at qv
  have qb := quos_bound hb n ds.reverse 0 (Int.le_refl 0) hb rmem
  have ql : (quos b n 0 ds.reverse).length = K := by rw [quos_length, List.length_reverse, dlen]
  have c2 := d2i_spec W (n := n) (ds := (quos b n 0 ds.reverse).reverse) (j := 15) (fun d hd => qb d (List.mem_reverse.mp hd)) (by rw [List.length_reverse, ql]; omega) (by rw [List.length_reverse, ql]; omega) (by omega) (by rw [List.length_reverse, ql]; exact hKb)
  rw [qv.1] at c2
  refine Opn.ofDef (k := 17) ["a", "b"] [("b", .d (.int b)), ("a", .d (.int a))] W.st W.hDP
    (fun pm code doc vals h => len2_ h fun _ _ => rfl) (fun n hn => .inl ?_) rfl rfl (fun L pm code doc => ?_)
  · simp only [List.mem_cons, List.not_mem_nil, or_false] at hn
    rcases hn with rfl | rfl <;> rfl
  refine Do.cons (DoS.assign ⟨.inl rfl, nofun⟩ (d := .int n) (Ev.cast (d' := .int (Builtin.Int.intBits b)) ?_ (by rw [← hn])) ?_)
  · walk_at "ev"
  dsimp only
  refine Do.cons (DoS.assign ⟨.inl rfl, nofun⟩ (d := .list (ds.map .int)) (Ev.fn W W.hI2D rfl rfl (by decide) ?_ ?_ c1 (by decide)) ?_)
  · walk_at "ev"
  · walk_at "ev"
  dsimp only
  refine Do.cons (DoS.assign ⟨.inl rfl, nofun⟩ (d := .int 0) ?_ ?_)
  · walk_at "ev"
  dsimp only
  refine Do.cons (DoS.assignL ⟨.inl rfl, nofun⟩ (ds := []) ?_ fun aq => ?_)
  · walk_at "ev"
  dsimp only
  refine Do.cons (DoS.for (xs := (ds.map PyData.int).reverse) (fun i => [("q_digits", .L aq ((quos b n 0 (ds.reverse.take i)).map .int)), ("r", .d (.int (rems b n 0 (ds.reverse.take i)))), ("n", .d (.int n)), ("b", .d (.int b)), ("a", .d (.int a))]) "[u" "[v" (by decide) (by refine ⟨?_, ?_, ?_⟩ <;> (intro h; cases h)) (by refine ⟨?_, ?_, ?_⟩ <;> (intro h; cases h))
    ⟨.inl rfl, nofun⟩ ?_ (SubL.sub (by repeat (first | exact trivial | refine ⟨rfl, ?_⟩))) (fun i => ⟨rfl, rfl⟩) ⟨rfl, rfl⟩ (fun i d hi bu bv => ?_) ?_)
  · walk_at "ev"
    all_goals rfl
  · rw [← List.map_reverse, List.getElem?_map] at hi
    obtain ⟨x, hx, rfl⟩ : ∃ x, ds.reverse[i]? = some x ∧ PyData.int x = d := by
      cases e : ds.reverse[i]? with
      | none => rw [e] at hi; cases hi
      | some x => rw [e] at hi; exact ⟨x, rfl, by injection hi⟩
    have hxm : x ∈ ds.reverse := List.mem_of_getElem? hx
    obtain ⟨x0, x1⟩ := rmem x hxm
    obtain ⟨r0, r1⟩ := rems_bound hb n (ds.reverse.take i) 0 (Int.le_refl 0) hb
    have htake : ds.reverse.take (i + 1) = ds.reverse.take i ++ [x] := by
      rw [List.take_add_one, hx]; rfl
    obtain ⟨R, hR⟩ : ∃ R, R = rems b n 0 (ds.reverse.take i) := ⟨_, rfl⟩
    rw [← hR] at r0 r1 ⊢
    obtain ⟨t0, t1⟩ := turn_bound r0 r1 x0 x1
    have c3 := div2_2 W (R * 2 ^ n + x) b n hbb b1 b2 b3 t0 t1
    have hRb := bits_bound r0 (Int.lt_trans r1 b3)
    have ei : R * 2 ^ ((n : Nat) : Int).toNat = R * 2 ^ n := by rw [Int.toNat_natCast]
    refine Do.cons (DoS.assign2 ⟨.inl rfl, nofun⟩ ⟨.inl rfl, nofun⟩ (Ev.fn (ds := [.int (R * 2 ^ n + x), .int b, .int n]) W W.hDiv2 rfl rfl (by decide) ?_ ?_ c3 (by decide)) ?_)
    · walk_at "ev"
    · refine Evs.cons' rfl (Ev.bin (Ev.cast (d' := .int (R * 2 ^ ((n : Nat) : Int).toNat)) ?_ (by rw [ei])) ?_ op_add) (Evs.cons' rfl ?_ (Evs.cons' rfl ?_ .nil))
      · walk_at "ev"
        all_goals omega
      · walk_at "ev"
      · walk_at "ev"
      · walk_at "ev"
    dsimp only
    refine Do.cons (DoS.append (x := "q_digits") (ds := (quos b n 0 (ds.reverse.take i)).map .int) (d := .int ((R * 2 ^ n + x) / b)) rfl (.inl rfl) ?_ ?_ ?_ ?_)
    · walk_at "ev"
    · walk_at "ev"
    · rw [List.length_map, quos_length, sizeLine_eq]
      have := List.length_take_le i ds.reverse
      rw [List.length_take, List.length_reverse]
      omega
    · dsimp only
      refine Do.nil ?_
      dsimp only
      rw [htake, quos_snoc, rems_snoc, ← hR, List.map_append]
      exact SubL.sub (by repeat (first | exact trivial | refine ⟨rfl, ?_⟩))
  dsimp only
  rw [List.length_reverse, List.length_map, dlen, show ds.reverse.take K = ds.reverse from List.take_of_length_le (by rw [List.length_reverse]; omega), qv.2]
  refine Do.cons (DoS.reverse (x := "q_digits") rfl (.inl rfl) (by rw [List.length_map, ql, sizeLine_eq]; omega) ?_)
  dsimp only
  refine Do.freeze (x := "q_digits") (a := aq) rfl ?_
  rw [← List.map_reverse]
  refine Do.cons (DoS.assign ⟨.inl rfl, nofun⟩ (d := .int (a / b)) (Ev.fn W W.hD2I rfl rfl (by decide) ?_ ?_ c2 (by decide)) ?_)
  · walk_at "ev"
  · walk_at "ev"
  dsimp only
  refine Do.cons (DoS.ret (d := .tuple [.int (a / b), .int (a % b)]) ?_ (.inl rfl))
  walk_at "ev"

noncomputable abbrev SpecM (C : Cfg) (W : Wd C) (k : Nat) (a b : Int) : Prop := Opn C k (fun vs => PySem.call (.ref W.aDM) vs) [.int a, .int b] (.tuple [.int (a.fdiv b), .int (a.fmod b)])
theorem dm_of {C : Cfg} (W : Wd C) {a b : Int} {k : Nat} (hb : b ≠ 0) (hk : 18 ≤ k)
    (h1 : b < 0 → SpecM C W k (-a) (-b)) (h2 : 0 < b → a < 0 → SpecM C W k (-a - 1) b) (h3 : 0 < b → 0 ≤ a → Builtin.Int.intBits a ≤ 32768 ∧ Builtin.Int.intBits b ≤ 15997) : SpecM C W (k + 1) a b := by
  refine Opn.ofDef ["a", "b"] [("b", .d (.int b)), ("a", .d (.int a))] W.st W.hDM
    (fun pm code doc vals h => len2_ h fun _ _ => rfl) (fun n hn => .inl ?_) rfl rfl (fun L pm code doc => ?_)
  · simp only [List.mem_cons, List.not_mem_nil, or_false] at hn
    rcases hn with rfl | rfl <;> rfl
  refine Do.cons (DoS.ite (b := (b == 0)) ?_ (fun h => absurd (by simpa using h) hb) (fun _ => ?_))
  · walk_at "ev"
  refine Do.cons (DoS.ite (b := decide (b < 0)) ?_ (fun h => ?_) (fun h => ?_))
  · walk_at "ev"
  · have hb0 := of_decide_eq_true h
    refine Do.cons (DoS.assign2 ⟨.inl rfl, nofun⟩ ⟨.inl rfl, nofun⟩ (Ev.fn (ds := [.int (-a), .int (-b)]) W W.hDM rfl rfl (by decide) ?_ ?_ (h1 hb0) (Nat.le_refl _)) ?_)
    · walk_at "ev"
    · walk_at "ev"
    dsimp only
    refine Do.cons (DoS.ret (d := .tuple [.int (a.fdiv b), .int (a.fmod b)]) (Ev.cast (d' := .tuple [.int ((-a).fdiv (-b)), .int (-((-a).fmod (-b)))]) ?_ ?_) (.inl rfl))
    · walk_at "ev"
    · have e1 : (-a).fdiv (-b) = a.fdiv b := Int.neg_fdiv_neg a b
      have e2 : (-a).fmod (-b) = -(a.fmod b) := by
        have i1 := Int.mul_fdiv_add_fmod a b
        have i2 := Int.mul_fdiv_add_fmod (-a) (-b)
        rw [e1, Int.neg_mul] at i2
        omega
      rw [e1, e2, Int.neg_neg]
  · have hb0 : 0 < b := by have := of_decide_eq_false h; omega
    refine Do.cons (DoS.ite (b := decide (a < 0)) ?_ (fun h => ?_) (fun h => ?_))
    · walk_at "ev"
    · have ha0 := of_decide_eq_true h
      refine Do.cons (DoS.assign2 ⟨.inl rfl, nofun⟩ ⟨.inl rfl, nofun⟩ (Ev.fn (ds := [.int (-a - 1), .int b]) W W.hDM rfl rfl (by decide) ?_ ?_ (h2 hb0 ha0) (Nat.le_refl _)) ?_)
      · walk_at "ev"
      · walk_at "ev"
      dsimp only
      refine Do.cons (DoS.ret (d := .tuple [.int (a.fdiv b), .int (a.fmod b)]) (Ev.cast (d' := .tuple [.int (-((-a - 1).fdiv b) - 1), .int (b + (-((-a - 1).fmod b) - 1))]) ?_ ?_) (.inl rfl))
      · walk_at "ev"
      · rw [fdiv_pos (Int.le_of_lt hb0), fdiv_pos (Int.le_of_lt hb0), fmod_pos (Int.le_of_lt hb0), fmod_pos (Int.le_of_lt hb0)]
        have i := Int.mul_ediv_add_emod (-a - 1) b
        have j0 := Int.emod_nonneg (-a - 1) (Int.ne_of_gt hb0)
        have j1 := Int.emod_lt_of_pos (-a - 1) hb0
        obtain ⟨u1, u2⟩ := div_unique (A := a) (q := -((-a - 1) / b) - 1) (r := b + (-((-a - 1) % b) - 1)) hb0 (by
          rw [Int.sub_mul, Int.one_mul, Int.neg_mul, Int.mul_comm ((-a - 1) / b) b]; omega) (by omega) (by omega)
        rw [u1, u2]
    · have ha0 : 0 ≤ a := by have := of_decide_eq_false h; omega
      obtain ⟨q1, q2⟩ := h3 hb0 ha0
      have c := dp_spec W ha0 q1 hb0 q2
      refine Do.cons (DoS.ret (Ev.cast (Ev.fn (ds := [.int a, .int b]) W W.hDP rfl rfl (by decide) ?_ ?_ c hk) ?_) (.inl rfl))
      · walk_at "ev"
      · walk_at "ev"
      · rw [fdiv_pos (Int.le_of_lt hb0), fmod_pos (Int.le_of_lt hb0)]
theorem dm_pos {C : Cfg} (W : Wd C) {a b : Int} (hb : 0 < b) (ha : 0 ≤ a) (hab : Builtin.Int.intBits a ≤ 32768) (hbb : Builtin.Int.intBits b ≤ 15997) : SpecM C W 19 a b :=
  dm_of W (by omega) (Nat.le_refl _) (fun h => absurd h (by omega)) (fun _ h => absurd h (by omega)) fun _ _ => ⟨hab, hbb⟩
theorem bits_not {a : Int} (h : a < 0) : Builtin.Int.intBits (-a - 1) ≤ Builtin.Int.intBits a := bits_le (Nat.lt_of_le_of_lt (by omega) (lt_bits a))
theorem bits_neg (a : Int) : Builtin.Int.intBits (-a) ≤ Builtin.Int.intBits a := bits_le (by rw [Int.natAbs_neg]; exact lt_bits a)
theorem Opn.up {C : Cfg} {k k' : Nat} {f : List Value → Sem Value} {ds : List PyData} {d : PyData} (h : Opn C k f ds d) (hk : k ≤ k') : Opn C k' f ds d := fun A O s vs Q E g av R r p => h A O s vs Q E g av (R.le hk) r p
theorem dm_mid {C : Cfg} (W : Wd C) {a b : Int} (hb : 0 < b) (hab : Builtin.Int.intBits a ≤ 32768) (hbb : Builtin.Int.intBits b ≤ 15997) : SpecM C W 20 a b :=
  dm_of W (by omega) (by decide) (fun h => absurd h (by omega)) (fun _ h => dm_pos W hb (by omega) (Nat.le_trans (bits_not h) hab) hbb) fun _ _ => ⟨hab, hbb⟩
/-- int_divmod -/
theorem dm_spec {C : Cfg} (W : Wd C) {a b : Int} (hb : b ≠ 0) (hab : Builtin.Int.intBits a ≤ 32768) (hbb : Builtin.Int.intBits b ≤ 15997) : SpecM C W 21 a b :=
  dm_of W hb (by decide) (fun h => dm_mid W (by omega) (Nat.le_trans (bits_neg a) hab) (Nat.le_trans (bits_neg b) hbb)) (fun h1 h => (dm_pos W h1 (by omega) (Nat.le_trans (bits_not h) hab) hbb).up (by decide)) fun _ _ => ⟨hab, hbb⟩

theorem Do.absurd {C : Cfg} {T : List Addr} {k : Nat} {env : Env} {fz : Bool} {m : Mp} {Q : Fl → Mp → Prop} {x : Str} {a : Addr} {ss : List Stmt} (h : m.lookup x = some (.ob a fun _ => False)) : Do C T k env fz ss m Q := by
  intro A he Oc O s Qh E g F R p
  obtain ⟨mm, hn, hm⟩ := F.bear
  obtain ⟨_, _, v, _, _, _, _, o, _, z, _⟩ := hm _ _ h
  exact z.elim
/-- an owned list's item -/
theorem Ev.itemL {C : Cfg} {k : Nat} {env : Env} {m : Mp} {x : Str} {px pos : Pos} {slice : Expr} {a : Addr} {xs : List PyData} {i : Int} {d : PyData} {j : Nat} (hm : m.lookup x = some (.L a xs)) (hl' : Loc env x) (hi : Ev C k env m slice (.int i)) (hj : seqIndex? i xs.length = some j) (hx : xs[j]? = some d)
    (hfit : xs.length ≤ sizeLine) (hs : ∀ o i, subscripted slice false o i = operate [o, i] (getItem o i) := by intro _ _; with_unfolding_all rfl)
    (hd : (x == ("__debug__" : Str)) = false := by decide) (hc : (x == ("__classdict__" : Str)) = false := by decide) : Ev C k env m (.Subscript (.Name x px) slice pos) d := by
  intro A T he Oc O s fz Q E g F R p
  refine Subscript_ (EvB.name hm hl' hd hc A T he Oc O s fz _ _ g F R fun v tk r => ?_)
  obtain ⟨rfl, _⟩ := r
  refine hi A T he Oc O _ fz _ _ g F R fun v₂ h₂ tk₂ k₂ g₂ r₂ => ?_
  have F2 := F.kp k₂
  obtain ⟨v, hv, hO, hT, hH, vs, n, ho, hr⟩ := F2.get hm
  cases r₂
  obtain ⟨w, hw, rw⟩ := hr.get j d rfl hx
  have hl := hr.length
  have Q' : ∀ tk, Q w { s with heap := h₂, toks := tk } := fun tk => p w h₂ tk k₂ g₂ rw
  have hlt : j < xs.length := (List.getElem?_eq_some_iff.mp hx).1
  have hIL : h₂.IsList _ vs.toArray := ⟨_, ho, rfl, _, rfl⟩
  rw [sizeLine_eq] at hfit
  unfold seqIndex? at hj
  by_cases h0 : i < 0
  · simp only [h0, if_true] at hj
    split at hj
    · rename_i hc
      simp only [Bool.and_eq_true, decide_eq_true_eq] at hc
      cases hj
      exact tail_any (T := "list") ⟨_, ho, rfl⟩ slot_list_getitem.lookup (wpAny_getItem_list_neg (items := vs.toArray) (x := w) hIL h0 (by simp [hl]; omega) (by omega) (by simpa [hl] using hw) (Q' _)) (hs _ _)
    · cases hj
  · simp only [h0, if_false] at hj
    split at hj
    · rename_i hc
      simp only [Bool.and_eq_true, decide_eq_true_eq] at hc
      cases hj
      exact tail_any (T := "list") ⟨_, ho, rfl⟩ slot_list_getitem.lookup (wpAny_getItem_list (items := vs.toArray) (x := w) hIL (by omega) (by omega) (by simpa using hw) (Q' _)) (hs _ _)
    · cases hj
theorem map_erase : ∀ (l : List Str) (i : Nat), (l.map PyData.str).eraseIdx i = (l.eraseIdx i).map PyData.str
  | [], _ => rfl
  | _ :: _, 0 => rfl
  | x :: l, i + 1 => by rw [List.map_cons, List.eraseIdx_cons_succ, List.eraseIdx_cons_succ, List.map_cons, map_erase l i]
noncomputable def dots : Str := Str.ofString "..."
/-- the search of the parts from a place on -/
noncomputable def erun (got : Str) (ep : Int) : Int → List Str → Option Int
  | sp, [] => some sp
  | sp, w :: ws => if dfind got w sp ep < 0 then none else erun got ep (dfind got w sp ep + w.length) ws
theorem erun_snoc (got : Str) (ep : Int) (w : Str) : ∀ (ws : List Str) (sp : Int), erun got ep sp (ws ++ [w]) = (erun got ep sp ws).bind fun s => if dfind got w s ep < 0 then none else some (dfind got w s ep + w.length)
  | [], _ => rfl
  | v :: ws, sp => by
    rw [List.cons_append, erun, erun]
    by_cases h : dfind got v sp ep < 0
    · rw [if_pos h, if_pos h]; rfl
    · rw [if_neg h, if_neg h]; exact erun_snoc got ep w ws _
theorem erun_none (got : Str) (ep : Int) (vs : List Str) : ∀ (ws : List Str) (sp : Int), erun got ep sp ws = none → erun got ep sp (ws ++ vs) = none
  | [], _, h => by cases h
  | w :: ws, sp, h => by
    rw [List.cons_append, erun]
    rw [erun] at h
    by_cases h' : dfind got w sp ep < 0
    · rw [if_pos h']
    · rw [if_neg h'] at h ⊢; exact erun_none got ep vs ws _ h
noncomputable def emTail (got : Str) (ws : List Str) (sp ep : Int) : Bool := if sp > ep then false else (erun got ep sp ws).isSome
noncomputable def emBack (got : Str) (ws : List Str) (sp : Int) : Bool :=
  let w := ws.getLastD ⟨#[]⟩
  if (w.length : Int) != 0 then (if Txt.endswith got w then emTail got (ws.eraseIdx (ws.length - 1)) sp ((got.length : Int) - w.length) else false) else emTail got ws sp got.length
noncomputable def emFront (got : Str) (ws : List Str) : Bool :=
  let w := ws.headD ⟨#[]⟩
  if (w.length : Int) != 0 then (if Txt.startswith got w then emBack got (ws.eraseIdx 0) w.length else false) else emBack got ws 0
noncomputable def hasDots (want : Str) : Bool := !(Builtin.Str.occurrences want dots 0 want.length 1).isEmpty
noncomputable def ematch (want got : Str) : Bool := if hasDots want then emFront got (Txt.split want dots) else want == got
noncomputable def emOk (want got : Str) : Bool :=
  decide (want.length ≤ 1000) && decide (got.length ≤ 1000) && (!hasDots want || (decide (2 ≤ (Txt.split want dots).length) && decide ((Txt.split want dots).length ≤ 1000) && decide ((Builtin.Str.partsBetween want (Builtin.Str.occurrences want dots 0 want.length (want.length + 1)) dots.length).length ≤ 1000) && (Txt.split want dots).all fun w => decide (w.length ≤ 1000)))
section
variable {C : Cfg} {k : Nat} {L a : Addr} {pm code doc : Value}
theorem em_tail (W : Wd C) {got : Str} {ws : List Str} {sp ep : Int} (hws : ws.length ≤ 1000) (hw : ∀ w ∈ ws, w.length ≤ 1000) {m : Mp} (hm : Sub m [("ws", .L a (ws.map .str)), ("startpos", .d (.int sp)), ("endpos", .d (.int ep)), ("got", .d (.str got))]) :
    Do C C.T k (callEnvC (dEM.data pm code doc) L W.aEM) false (dEM.body.drop 8) m fun f _ => f = .ret (.bool (emTail got ws sp ep)) ∨ (f = .next ∧ PyData.bool (emTail got ws sp ep) = .none) := by
  refine Do.sub (Do.cons (DoS.ite (b := decide (sp > ep)) ?_ (fun h => ?_) (fun h => Do.nil ?_))) hm
  · walk_at "ev"
  · have h := of_decide_eq_true h
    refine Do.cons (DoS.ret (d := .bool false) ?_ (.inl (by rw [emTail, if_pos h])))
    walk_at "ev"
  dsimp only
  have h := of_decide_eq_false h
  refine Do.freeze (x := "ws") (a := a) rfl ?_
  obtain ⟨st, hst⟩ : ∃ st : Nat → Bd, st = fun i => match erun got ep sp (ws.take i) with | some s => .d (.int s) | none => .ob 0 fun _ => False := ⟨_, rfl⟩
  have ste : ∀ i s, erun got ep sp (ws.take i) = some s → st i = .d (.int s) := fun i s e => by rw [hst]; dsimp only; rw [e]
  have stn : ∀ i, erun got ep sp (ws.take i) = none → st i = .ob 0 fun _ => False := fun i e => by rw [hst]; dsimp only; rw [e]
  refine Do.cons (DoS.for (xs := ws.map PyData.str) (fun i => [("startpos", st i), ("endpos", .d (.int ep)), ("got", .d (.str got))]) "[u" "[v" (by decide) (by refine ⟨?_, ?_, ?_⟩ <;> (intro h; cases h)) (by refine ⟨?_, ?_, ?_⟩ <;> (intro h; cases h))
    ⟨.inl rfl, nofun⟩ ?_ (SubL.sub ?_) (fun i => ⟨rfl, rfl⟩) ⟨rfl, rfl⟩ (fun i d hi bu bv => ?_) ?_)
  · walk_at "ev"
  · rw [ste 0 sp rfl]; (repeat (first | exact trivial | refine ⟨rfl, ?_⟩))
  · rw [List.getElem?_map] at hi
    obtain ⟨w, hx, rfl⟩ : ∃ x, ws[i]? = some x ∧ PyData.str x = d := by
      cases e : ws[i]? with
      | none => rw [e] at hi; cases hi
      | some x => rw [e] at hi; exact ⟨x, rfl, by injection hi⟩
    have hwl := hw w (List.mem_of_getElem? hx)
    have htake : ws.take (i + 1) = ws.take i ++ [w] := by rw [List.take_add_one, hx]; rfl
    have hsn := erun_snoc got ep w (ws.take i) sp
    rw [← htake] at hsn
    cases e : erun got ep sp (ws.take i) with
    | none => rw [stn i e]; exact Do.absurd (x := "startpos") (a := 0) rfl
    | some s0 =>
      rw [ste i s0 e]
      rw [e] at hsn
      replace hsn : erun got ep sp (ws.take (i + 1)) = if dfind got w s0 ep < 0 then none else some (dfind got w s0 ep + w.length) := hsn
      refine Do.cons (DoS.assign ⟨.inl rfl, nofun⟩ (d := .int (dfind got w s0 ep)) (Ev.meth' (d₀ := .str got) meth_find rfl rfl (by decide) ?_ ?_ rfl ?_ call_find4) ?_)
      · walk_at "ev"
      · walk_at "ev"
      · walk_at "ev"
      dsimp only
      refine Do.cons (DoS.ite (b := decide (dfind got w s0 ep < 0)) ?_ (fun h1 => ?_) (fun h1 => Do.nil ?_))
      · walk_at "ev"
      · have h1 := of_decide_eq_true h1
        rw [if_pos h1] at hsn
        have hf : emTail got ws sp ep = false := by
          rw [emTail, if_neg h]
          have := erun_none got ep (ws.drop (i + 1)) _ _ hsn
          rw [List.take_append_drop] at this
          rw [this]; rfl
        refine Do.cons (DoS.ret (d := .bool false) ?_ (.inl (by rw [hf])))
        walk_at "ev"
      · dsimp only
        have h1 := of_decide_eq_false h1
        rw [if_neg h1] at hsn
        refine Do.cons (DoS.aug (d0 := .int (dfind got w s0 ep)) (d1 := .int w.length) (d := .int (dfind got w s0 ep + w.length)) ⟨.inl rfl, nofun⟩ rfl ?_ op_iadd (Do.nil ?_))
        · walk_at "ev"
          rw [sizeLine_eq]; omega
        · dsimp only
          rw [ste (i + 1) _ hsn]
          exact SubL.sub (by repeat (first | exact trivial | refine ⟨rfl, ?_⟩))
  · dsimp only
    rw [List.length_map]
    have hall : ws.take ws.length = ws := List.take_of_length_le (Nat.le_refl _)
    cases e : erun got ep sp (ws.take ws.length) with
    | none => rw [stn _ e]; exact Do.absurd (x := "startpos") (a := 0) rfl
    | some s0 =>
      rw [hall] at e
      refine Do.cons (DoS.ret (d := .bool true) ?_ (.inl (by rw [emTail, if_neg h, e]; rfl)))
      walk_at "ev"
theorem em_back (W : Wd C) {got w0 : Str} {ws : List Str} {sp : Int} (hgot : got.length ≤ 1000) (hne : ws ≠ []) (hws : ws.length ≤ 1000) (hw : ∀ w ∈ ws, w.length ≤ 1000) {m : Mp} (hm : Sub m [("ws", .L a (ws.map .str)), ("startpos", .d (.int sp)), ("endpos", .d (.int got.length)), ("got", .d (.str got))]) :
    Do C C.T k (callEnvC (dEM.data pm code doc) L W.aEM) false (dEM.body.drop 6) m fun f _ => f = .ret (.bool (emBack got ws sp)) ∨ (f = .next ∧ PyData.bool (emBack got ws sp) = .none) := by
  have hl : 0 < ws.length := by
    cases ws with
    | nil => exact absurd rfl hne
    | cons => exact Nat.succ_pos _
  obtain ⟨w, hwd⟩ : ∃ w, w = ws.getLastD ⟨#[]⟩ := ⟨_, rfl⟩
  have hlast : ws[ws.length - 1]? = some w := by
    rw [hwd, List.getLastD_eq_getLast?, ← List.getLast?_eq_getElem?]
    cases e : ws.getLast? with
    | none => rw [List.getLast?_eq_none_iff] at e; exact absurd e hne
    | some x => rfl
  have hwl := hw w (List.mem_of_getElem? hlast)
  have hlast' : (ws.map PyData.str)[ws.length - 1]? = some (.str w) := by rw [List.getElem?_map, hlast]; rfl
  have hix : seqIndex? (-1) (ws.map PyData.str).length = some (ws.length - 1) := by
    rw [List.length_map]
    unfold seqIndex?
    have e1 : ((-1 : Int) < 0) := by decide
    simp only [e1, if_true]
    rw [if_pos (by simp only [Bool.and_eq_true, decide_eq_true_eq]; omega)]
    congr 1; omega
  have hszl : (ws.map PyData.str).length ≤ sizeLine := by rw [List.length_map, sizeLine_eq]; omega
  have heb : emBack got ws sp = if (w.length : Int) != 0 then (if Txt.endswith got w then emTail got (ws.eraseIdx (ws.length - 1)) sp ((got.length : Int) - w.length) else false) else emTail got ws sp got.length := by rw [hwd]; rfl
  refine Do.sub (Do.cons (DoS.assign ⟨.inl rfl, nofun⟩ (d := .str w) (Ev.itemL (x := "ws") (a := a) (i := -1) rfl (.inl rfl) ?_ hix hlast' hszl) ?_)) hm
  · walk_at "ev"
  dsimp only
  refine Do.cons (DoS.ite (b := ((w.length : Int) != 0)) ?_ (fun hb => ?_) (fun hb => Do.nil ?_))
  · walk_at "ev"
    rw [sizeLine_eq]; omega
  · rw [hb, if_pos rfl] at heb
    refine Do.cons (DoS.ite (b := Txt.endswith got w) ?_ (fun h => ?_) (fun h => ?_))
    · refine Te.val' (fun _ => rfl) (Ev.meth' (d₀ := .str got) meth_endswith rfl rfl (by decide) ?_ ?_ rfl ?_ call_endswith) t_bool
      all_goals walk_at "ev"
    · rw [h, if_pos rfl] at heb
      refine Do.cons (DoS.aug (d0 := .int got.length) (d1 := .int w.length) (d := .int ((got.length : Int) - w.length)) ⟨.inl rfl, nofun⟩ rfl ?_ op_isub ?_)
      · walk_at "ev"
        rw [sizeLine_eq]; omega
      dsimp only
      refine Do.cons (DoS.del (x := "ws") (a := a) (i := -1) rfl (.inl rfl) ?_ hix hszl rfl ?_)
      · walk_at "ev"
      dsimp only
      refine Do.nil ?_
      dsimp only
      refine Do.nil ?_
      dsimp only
      rw [heb]
      refine em_tail W (a := a) (got := got) (ws := ws.eraseIdx (ws.length - 1)) (Nat.le_trans (List.length_eraseIdx_le ..) hws) (fun v hv => hw v (List.mem_of_mem_eraseIdx hv)) ?_
      rw [map_erase]
      exact SubL.sub (by repeat (first | exact trivial | refine ⟨rfl, ?_⟩))
    · rw [h, if_neg (by decide)] at heb
      refine Do.cons (DoS.ret (d := .bool false) ?_ (.inl (by rw [heb])))
      walk_at "ev"
  · dsimp only
    rw [hb, if_neg (by decide)] at heb
    rw [heb]
    exact em_tail W (a := a) (got := got) (ws := ws) hws hw (SubL.sub (by repeat (first | exact trivial | refine ⟨rfl, ?_⟩)))
end

/-- _ellipsis_match -/
theorem em_spec {C : Cfg} (W : Wd C) {want got : Str} (hok : emOk want got = true) : Opn C 1 (fun vs => PySem.call (.ref W.aEM) vs) [.str want, .str got] (.bool (ematch want got)) := by
  unfold emOk at hok
  simp only [Bool.and_eq_true, Bool.or_eq_true, decide_eq_true_eq, Bool.not_eq_true', List.all_eq_true] at hok
  obtain ⟨⟨hwl, hgl⟩, hok⟩ := hok
  refine Opn.ofDef ["want", "got"] [("got", .d (.str got)), ("want", .d (.str want))] W.st W.hEM
    (fun pm code doc vals h => len2_ h fun _ _ => rfl) (fun n hn => .inl ?_) rfl rfl (fun L pm code doc => ?_)
  · simp only [List.mem_cons, List.not_mem_nil, or_false] at hn
    rcases hn with rfl | rfl <;> rfl
  refine Do.cons (DoS.ite (b := !hasDots want) ?_ (fun h => ?_) (fun h => Do.nil ?_))
  · refine Te.cmp' rfl ?_ ?_ op_notins <;> walk_at "ev"
  · refine Do.cons (DoS.ret (d := .bool (want == got)) ?_ (.inl ?_))
    · walk_at "ev"
    · have : hasDots want = false := by simpa using h
      rw [ematch, this]; rfl
  dsimp only
  have hd : hasDots want = true := by simpa using h
  rw [hd] at hok
  obtain ⟨⟨⟨h2, h3⟩, h4⟩, h5⟩ := hok.resolve_left (by decide)
  have hem : ematch want got = emFront got (Txt.split want dots) := by rw [ematch, hd, if_pos rfl]
  obtain ⟨ws, hws⟩ : ∃ ws, ws = Txt.split want dots := ⟨_, rfl⟩
  rw [← hws] at hem h2 h3 h5
  rw [hem]
  have hszl : (ws.map PyData.str).length ≤ sizeLine := by rw [List.length_map, sizeLine_eq]; omega
  refine Do.cons (DoS.assignL (ds := ws.map .str) ⟨.inl rfl, nofun⟩ (EvL.meth' (d₀ := .str want) (ds := [.str dots]) meth_split rfl rfl (by decide) ?_ ?_ rfl ?_ ?_) fun a => ?_)
  · walk_at "ev"
  · walk_at "ev"
  · walk_at "ev"
  · rw [hws]
    exact call_split rfl (by rw [sizeLine_eq]; omega) (by rw [sizeLine_eq]; omega)
  dsimp only
  refine Do.cons (DoS.assert (Te.cast (b' := decide ((((ws.map PyData.str).length : Nat) : Int) ≥ 2)) (Te.cmp' rfl (Ev.lenL W.st W.len rfl (x := "ws") (a := a) (ds := ws.map PyData.str) rfl (.inl rfl) hszl) ?_ op_ge) ?_) ?_)
  · walk_at "ev"
  · rw [List.length_map]; exact decide_eq_true (by omega)
  dsimp only
  refine Do.cons (DoS.assign2s ⟨.inl rfl, nofun⟩ ⟨.inl rfl, nofun⟩ (d1 := .int 0) (d2 := .int got.length) ?_ ?_)
  · walk_at "ev"
    rw [sizeLine_eq]; omega
  dsimp only
  obtain ⟨w, wr, hwr⟩ : ∃ w wr, ws = w :: wr := by
    cases ws with
    | nil => exact absurd h2 (by decide)
    | cons w wr => exact ⟨w, wr, rfl⟩
  have hr2 : wr ≠ [] := fun z => by rw [hwr, z] at h2; simp at h2
  have hwlen := h5 w (by rw [hwr]; exact .head _)
  have hix : seqIndex? 0 (ws.map PyData.str).length = some 0 := by
    rw [List.length_map]
    unfold seqIndex?
    have e1 : ¬ ((0 : Int) < 0) := by decide
    simp only [e1, if_false]
    rw [if_pos (by simp only [Bool.and_eq_true, decide_eq_true_eq]; omega)]; rfl
  have hfr : emFront got ws = if (w.length : Int) != 0 then (if Txt.startswith got w then emBack got wr w.length else false) else emBack got ws 0 := by rw [hwr]; rfl
  refine Do.cons (DoS.assign ⟨.inl rfl, nofun⟩ (d := .str w) (Ev.itemL (x := "ws") (a := a) (i := 0) rfl (.inl rfl) ?_ hix (by rw [hwr]; rfl) hszl) ?_)
  · walk_at "ev"
  dsimp only
  refine Do.cons (DoS.ite (b := ((w.length : Int) != 0)) ?_ (fun hb => ?_) (fun hb => Do.nil ?_))
  · walk_at "ev"
    rw [sizeLine_eq]; omega
  · rw [hb, if_pos rfl] at hfr
    refine Do.cons (DoS.ite (b := Txt.startswith got w) ?_ (fun h => ?_) (fun h => ?_))
    · refine Te.val' (fun _ => rfl) (Ev.meth' (d₀ := .str got) meth_startswith rfl rfl (by decide) ?_ ?_ rfl ?_ call_startswith) t_bool
      all_goals walk_at "ev"
    · rw [h, if_pos rfl] at hfr
      refine Do.cons (DoS.assign ⟨.inl rfl, nofun⟩ (d := .int w.length) ?_ ?_)
      · walk_at "ev"
        rw [sizeLine_eq]; omega
      dsimp only
      refine Do.cons (DoS.del (x := "ws") (a := a) (i := 0) rfl (.inl rfl) ?_ hix hszl rfl ?_)
      · walk_at "ev"
      dsimp only
      refine Do.nil ?_
      dsimp only
      refine Do.nil ?_
      dsimp only
      rw [hfr]
      refine em_back W (a := a) (got := got) (w0 := w) (ws := wr) hgl hr2 (by rw [hwr, List.length_cons] at h3; omega) (fun v hv => h5 v (by rw [hwr]; exact .tail _ hv)) ?_
      have e : (ws.map PyData.str).eraseIdx 0 = wr.map PyData.str := by rw [hwr]; rfl
      rw [e]
      exact SubL.sub (by repeat (first | exact trivial | refine ⟨rfl, ?_⟩))
    · rw [h, if_neg (by decide)] at hfr
      refine Do.cons (DoS.ret (d := .bool false) ?_ (.inl (by rw [hfr])))
      walk_at "ev"
  · dsimp only
    rw [hb, if_neg (by decide)] at hfr
    rw [hfr]
    exact em_back W (a := a) (got := got) (w0 := w) (ws := ws) hgl (by rw [hwr]; nofun) h3 h5 (SubL.sub (by repeat (first | exact trivial | refine ⟨rfl, ?_⟩)))

local macro_rules | `(tactic| walk_at "slicex") => `(tactic| first | (apply Ev.slice' (fun _ _ => ⟨_, rfl⟩) <;> walk_at "ev"))
noncomputable def ipick (xs : List Int) (lo hi st : Option Int) : List Int :=
  (sliceRange (sliceBounds lo hi st xs.length).1 (sliceBounds lo hi st xs.length).2.1 (sliceBounds lo hi st xs.length).2.2).filterMap (xs[·]?)
theorem dpick_map (xs : List Int) (lo hi st : Option Int) : dpick (xs.map .int) lo hi st = (ipick xs lo hi st).map .int := by
  unfold dpick ipick
  rw [List.length_map]
  generalize sliceRange _ _ _ = is
  induction is with
  | nil => rfl
  | cons i is ih =>
    rw [List.filterMap_cons, List.filterMap_cons, List.getElem?_map]
    cases xs[i]? with
    | none => exact ih
    | some x => rw [Option.map_some]; dsimp only; rw [List.map_cons, ih]
noncomputable def mendAt (torn : List Int) (miss : Int) (p : Nat) : Option (List Int) :=
  if (decide (miss ≤ (torn.count 1 : Nat)) && ((((ipick torn (some p) none none).count 1 : Nat) : Int) == miss)) = true then some (ipick torn none (some p) none ++ [0] ++ ipick torn (some p) none none)
  else if (decide (miss > (torn.count 1 : Nat)) && ((((ipick torn none (some p) none).count 0 : Nat) : Int) == miss - (torn.count 1 : Nat) - 1)) = true then some (ipick torn none (some p) none ++ [1] ++ ipick torn (some p) none none)
  else none
noncomputable def mend (torn : List Int) (miss : Int) : List Int := ((List.range (torn.length + 1)).findSome? (mendAt torn miss)).getD torn
theorem ipick_len (xs : List Int) (lo hi st : Option Int) : (ipick xs lo hi st).length ≤ (sliceRange (sliceBounds lo hi st xs.length).1 (sliceBounds lo hi st xs.length).2.1 (sliceBounds lo hi st xs.length).2.2).length := List.length_filterMap_le _ _
/-- _law_mended -/
theorem mend_spec {C : Cfg} (W : Wd C) {torn : List Int} {miss : Int} (hl : torn.length ≤ 1000) (hp : ∀ p ≤ torn.length, (ipick torn (some p) none none).length ≤ 1000 ∧ (ipick torn none (some p) none).length ≤ 1000) :
    Opn C 1 (fun vs => PySem.call (.ref W.aMend) vs) [.list (torn.map .int), .int miss] (.list ((mend torn miss).map .int)) := by
  refine Opn.ofDef ["torn", "miss"] [("miss", .d (.int miss)), ("torn", .d (.list (torn.map .int)))] W.st W.hMend
    (fun pm code doc vals h => len2_ h fun _ _ => rfl) (fun n hn => .inl ?_) rfl rfl (fun L pm code doc => ?_)
  · simp only [List.mem_cons, List.not_mem_nil, or_false] at hn
    rcases hn with rfl | rfl <;> rfl
  obtain ⟨ends, hends⟩ : ∃ ends : Int, ends = (torn.count 1 : Nat) := ⟨_, rfl⟩
  have hsz : (torn.map PyData.int).length ≤ sizeLine := by rw [List.length_map, sizeLine_eq]; omega
  refine Do.cons (DoS.assign ⟨.inl rfl, nofun⟩ (d := .int ends) (Ev.cast (d' := .int (torn.count 1 : Nat)) (Ev.meth' (d₀ := .list (torn.map .int)) (ds := [.int 1]) meth_count rfl rfl (by decide) ?_ ?_ rfl ?_ call_count) (by rw [hends])) ?_)
  · walk_at "ev"
  · walk_at "ev"
  · walk_at "ev"
  dsimp only
  obtain ⟨st, hst⟩ : ∃ st : Nat → Bd, st = fun i => match (List.range i).findSome? (mendAt torn miss) with | none => .d (.int ends) | some _ => .ob 0 fun _ => False := ⟨_, rfl⟩
  have ste : ∀ i, (List.range i).findSome? (mendAt torn miss) = none → st i = .d (.int ends) := fun i e => by rw [hst]; dsimp only; rw [e]
  have stn : ∀ i x, (List.range i).findSome? (mendAt torn miss) = some x → st i = .ob 0 fun _ => False := fun i x e => by rw [hst]; dsimp only; rw [e]
  refine Do.cons (DoS.for (xs := rng ((torn.length : Int) + 1).toNat) (fun i => [("ends", st i), ("miss", .d (.int miss)), ("torn", .d (.list (torn.map .int)))]) "[u" "[v" (by decide) (by refine ⟨?_, ?_, ?_⟩ <;> (intro h; cases h)) (by refine ⟨?_, ?_, ?_⟩ <;> (intro h; cases h))
    ⟨.inl rfl, nofun⟩ ?_ (SubL.sub ?_) (fun i => ⟨rfl, rfl⟩) ⟨rfl, rfl⟩ (fun i d hi bu bv => ?_) ?_)
  · refine EvI.range' W rfl ?_ rfl ?_ (by omega) (by omega)
    · walk_at "ev"
    · refine Ev.cast (d' := .int (((torn.map PyData.int).length : Int) + 1)) ?_ (by rw [List.length_map])
      walk_at "ev"
      exact hsz
  · rw [ste 0 rfl]; (repeat (first | exact trivial | refine ⟨rfl, ?_⟩))
  · have hir : i < torn.length + 1 ∧ d = .int (i : Int) := by
      unfold rng at hi
      rw [List.getElem?_map] at hi
      have e : ((torn.length : Int) + 1).toNat = torn.length + 1 := by omega
      rw [e] at hi
      by_cases h : i < torn.length + 1
      · rw [List.getElem?_range h] at hi
        exact ⟨h, by injection hi with hi; exact hi.symm⟩
      · rw [List.getElem?_eq_none (by rw [List.length_range]; omega)] at hi; cases hi
    obtain ⟨hir, rfl⟩ := hir
    obtain ⟨p1, p2⟩ := hp i (by omega)
    cases e : (List.range i).findSome? (mendAt torn miss) with
    | some x => rw [stn i x e]; exact Do.absurd (x := "ends") (a := 0) rfl
    | none =>
      rw [ste i e]
      have hsn : (List.range (i + 1)).findSome? (mendAt torn miss) = mendAt torn miss i := by
        rw [List.range_succ, List.findSome?_append, e]; simp
      have hfull : ∀ r, mendAt torn miss i = some r → mend torn miss = r := fun r hr => by
        have e2 : List.range (torn.length + 1) = List.range (i + 1) ++ (List.range (torn.length - i)).map (· + (i + 1)) := by
          rw [show torn.length + 1 = (i + 1) + (torn.length - i) by omega, List.range_add]
          simp [Nat.add_comm]
        rw [mend, e2, List.findSome?_append, hsn, hr]; rfl
      refine Do.cons (DoS.ite (Te.and2 (b₁ := decide (miss ≤ ends)) (b₂ := ((((ipick torn (some i) none none).count 1 : Nat) : Int) == miss)) ?_ fun _ => Te.cmp' rfl (Ev.meth' (d₀ := .list ((ipick torn (some i) none none).map .int)) (ds := [.int 1]) meth_count rfl rfl (by decide) ?_ ?_ rfl ?_ call_count) ?_ op_eq) (fun h => ?_) (fun h => Do.nil ?_))
      · walk_at "ev"
      · walk_at "ev"
      · rw [← dpick_map]
        walk_at "ev"
        · exact hsz
        · nofun
      · walk_at "ev"
      · walk_at "ev"
      · have hr : mendAt torn miss i = some (ipick torn none (some i) none ++ [0] ++ ipick torn (some i) none none) := by
          unfold mendAt; rw [← hends, if_pos h]
        refine Do.cons (DoS.ret (d := .list ((ipick torn none (some i) none ++ [0] ++ ipick torn (some i) none none).map .int)) ?_ (.inl (by rw [hfull _ hr])))
        rw [List.map_append, List.map_append, ← dpick_map, ← dpick_map]
        refine Ev.bin (Ev.bin ?_ ?_ (Op2L.op (op_addl ?_))) ?_ (Op2L.op (op_addl ?_))
        · walk_at "ev"
          · exact hsz
          · nofun
        · walk_at "ev"
        · rw [dpick_map, List.length_map, sizeLine_eq]; simp only [List.map_cons, List.map_nil, List.length_cons, List.length_nil]; omega
        · walk_at "ev"
          · exact hsz
          · nofun
        · simp only [List.length_append, dpick_map, List.length_map, List.length_cons, List.length_nil, sizeLine_eq]; omega
      · dsimp only
        refine Do.cons (DoS.ite (Te.and2 (b₁ := decide (miss > ends)) (b₂ := ((((ipick torn none (some i) none).count 0 : Nat) : Int) == miss - ends - 1)) ?_ fun _ => Te.cmp' rfl (Ev.meth' (d₀ := .list ((ipick torn none (some i) none).map .int)) (ds := [.int 0]) meth_count rfl rfl (by decide) ?_ ?_ rfl ?_ call_count) ?_ op_eq) (fun h' => ?_) (fun h' => Do.nil ?_))
        · walk_at "ev"
        · walk_at "ev"
        · rw [← dpick_map]
          walk_at "ev"
          · exact hsz
          · nofun
        · walk_at "ev"
        · walk_at "ev"
        · have hr : mendAt torn miss i = some (ipick torn none (some i) none ++ [1] ++ ipick torn (some i) none none) := by
            unfold mendAt; rw [← hends, if_neg (by rw [h]; decide), if_pos h']
          refine Do.cons (DoS.ret (d := .list ((ipick torn none (some i) none ++ [1] ++ ipick torn (some i) none none).map .int)) ?_ (.inl (by rw [hfull _ hr])))
          rw [List.map_append, List.map_append, ← dpick_map, ← dpick_map]
          refine Ev.bin (Ev.bin ?_ ?_ (Op2L.op (op_addl ?_))) ?_ (Op2L.op (op_addl ?_))
          · walk_at "ev"
            · exact hsz
            · nofun
          · walk_at "ev"
          · rw [dpick_map, List.length_map, sizeLine_eq]; simp only [List.map_cons, List.map_nil, List.length_cons, List.length_nil]; omega
          · walk_at "ev"
            · exact hsz
            · nofun
          · simp only [List.length_append, dpick_map, List.length_map, List.length_cons, List.length_nil, sizeLine_eq]; omega
        · have hr : mendAt torn miss i = none := by
            unfold mendAt; rw [← hends, if_neg (by rw [h]; decide), if_neg (by rw [h']; decide)]
          dsimp only
          refine Do.nil ?_
          dsimp only
          rw [ste (i + 1) (hsn.trans hr)]
          exact SubL.sub (by repeat (first | exact trivial | refine ⟨rfl, ?_⟩))
  · dsimp only
    have e1 : (rng ((torn.length : Int) + 1).toNat).length = torn.length + 1 := by
      unfold rng; rw [List.length_map, List.length_range]; omega
    rw [e1]
    cases e : (List.range (torn.length + 1)).findSome? (mendAt torn miss) with
    | some x => rw [stn _ x e]; exact Do.absurd (x := "ends") (a := 0) rfl
    | none =>
      rw [ste _ e]
      refine Do.cons (DoS.ret (d := .list (torn.map .int)) ?_ (.inl (by rw [mend, e]; rfl)))
      walk_at "ev"

/-- a text with its letters exchanged -/
noncomputable def mapc (f : Nat → Nat) (s : Str) : Str := ⟨s.cps.map f⟩
section
variable {f : Nat → Nat} (hf : ∀ a b, f a = f b → a = b) (hd : f 46 = 46)
theorem mapc_length (s : Str) : (mapc f s).length = s.length := by
  show (s.cps.map f).size = s.cps.size
  exact Array.size_map
include hd in
theorem mapc_dots : mapc f dots = dots := by
  show (⟨#[46, 46, 46].map f⟩ : Str) = ⟨#[46, 46, 46]⟩
  simp [hd]
theorem strSub_map (s : Str) (i j : Nat) : Builtin.Str.strSub (mapc f s) i j = mapc f (Builtin.Str.strSub s i j) := by
  unfold Builtin.Str.strSub mapc
  simp
include hf in
theorem mapc_inj {x y : Str} (h : mapc f x = mapc f y) : x = y := by
  have h' : x.cps.map f = y.cps.map f := congrArg Str.cps h
  have : x.cps = y.cps := by
    apply Array.ext'
    have h2 := congrArg Array.toList h'
    rw [Array.toList_map, Array.toList_map] at h2
    exact (List.map_inj_right (fun a b => hf a b)).mp h2
  cases x; cases y; cases this; rfl
include hf in
theorem mapc_beq (x y : Str) : (mapc f x == mapc f y) = (x == y) := by
  rw [Bool.eq_iff_iff, beq_iff_eq, beq_iff_eq]
  exact ⟨mapc_inj hf, fun h => by rw [h]⟩
include hf in
theorem subAt_map (x y : Str) (i : Nat) : Builtin.Str.subAt (mapc f x) (mapc f y) i = Builtin.Str.subAt x y i := by
  have e : ∀ x y : Str, Builtin.Str.subAt x y i = (Builtin.Str.strSub x i (i + y.length) == y) := fun x y => by
    unfold Builtin.Str.subAt Builtin.Str.strSub
    rw [Bool.eq_iff_iff, beq_iff_eq, beq_iff_eq]
    exact ⟨fun h => by cases y; simpa using h, fun h => congrArg Str.cps h⟩
  rw [e, e, mapc_length, strSub_map, mapc_beq hf]
include hf in
theorem occ_map (x y : Str) (lo hi n : Nat) : Builtin.Str.occurrences (mapc f x) (mapc f y) lo hi n = Builtin.Str.occurrences x y lo hi n := by
  unfold Builtin.Str.occurrences
  simp only [mapc_length, subAt_map hf]
theorem parts_map (x : Str) (cuts : List Nat) (w : Nat) : Builtin.Str.partsBetween (mapc f x) cuts w = (Builtin.Str.partsBetween x cuts w).map (mapc f) := by
  unfold Builtin.Str.partsBetween
  simp only [mapc_length, List.map_map]
  apply List.map_congr_left
  intro p _
  exact strSub_map x p.1 p.2
theorem strKind_pos (x : Str) : decide (Builtin.Str.strKind x < Builtin.Str.strKind dots) = false := by
  have h : Builtin.Str.strKind dots = 1 := by decide +kernel
  rw [h]
  refine decide_eq_false ?_
  unfold Builtin.Str.strKind
  split
  · omega
  · split <;> omega
include hf hd in
theorem split_map (x : Str) : Txt.split (mapc f x) dots = (Txt.split x dots).map (mapc f) := by
  unfold Txt.split
  rw [strKind_pos, strKind_pos, mapc_length]
  have e : ∀ n, Builtin.Str.occurrences (mapc f x) dots 0 x.length n = Builtin.Str.occurrences x dots 0 x.length n := fun n => by
    conv => { lhs; rw [← mapc_dots hd] }
    exact occ_map hf x dots 0 x.length n
  rw [e, parts_map]
  split
  · rfl
  · split <;> rfl
include hf in
theorem dfind_map (x y : Str) (i j : Int) : dfind (mapc f x) (mapc f y) i j = dfind x y i j := by
  unfold dfind
  rw [mapc_length, occ_map hf]
include hf in
theorem erun_map (got : Str) (ep : Int) : ∀ (ws : List Str) (sp : Int), erun (mapc f got) ep sp (ws.map (mapc f)) = erun got ep sp ws
  | [], _ => rfl
  | w :: ws, sp => by
    rw [List.map_cons, erun, erun, dfind_map hf, mapc_length]
    split
    · rfl
    · exact erun_map got ep ws _
include hf in
theorem emTail_map (got : Str) (ws : List Str) (sp ep : Int) : emTail (mapc f got) (ws.map (mapc f)) sp ep = emTail got ws sp ep := by
  unfold emTail; rw [erun_map hf]
theorem erase_mapc : ∀ (l : List Str) (i : Nat), (l.map (mapc f)).eraseIdx i = (l.eraseIdx i).map (mapc f)
  | [], _ => rfl
  | _ :: _, 0 => rfl
  | x :: l, i + 1 => by rw [List.map_cons, List.eraseIdx_cons_succ, List.eraseIdx_cons_succ, List.map_cons, erase_mapc l i]
theorem lastD_map (l : List Str) : (l.map (mapc f)).getLastD ⟨#[]⟩ = mapc f (l.getLastD ⟨#[]⟩) := by
  rw [List.getLastD_eq_getLast?, List.getLastD_eq_getLast?, List.getLast?_map]
  cases l.getLast? with
  | none => simp [mapc]
  | some => rfl
theorem headD_map (l : List Str) : (l.map (mapc f)).headD ⟨#[]⟩ = mapc f (l.headD ⟨#[]⟩) := by
  cases l with
  | nil => simp [mapc]
  | cons => rfl
include hf in
theorem starts_map (x y : Str) : Txt.startswith (mapc f x) (mapc f y) = Txt.startswith x y := by
  unfold Txt.startswith; rw [mapc_length, mapc_length, subAt_map hf]
include hf in
theorem ends_map (x y : Str) : Txt.endswith (mapc f x) (mapc f y) = Txt.endswith x y := by
  unfold Txt.endswith; rw [mapc_length, mapc_length, subAt_map hf]
include hf in
theorem emBack_map (got : Str) (ws : List Str) (sp : Int) : emBack (mapc f got) (ws.map (mapc f)) sp = emBack got ws sp := by
  unfold emBack
  simp only [lastD_map, mapc_length, ends_map hf, List.length_map, erase_mapc, emTail_map hf]
include hf in
theorem emFront_map (got : Str) (ws : List Str) : emFront (mapc f got) (ws.map (mapc f)) = emFront got ws := by
  unfold emFront
  simp only [headD_map, mapc_length, starts_map hf, erase_mapc, emBack_map hf]
include hf hd in
theorem hasDots_map (x : Str) : hasDots (mapc f x) = hasDots x := by
  unfold hasDots
  rw [mapc_length]
  conv => { lhs; rw [← mapc_dots hd] }
  rw [occ_map hf]
include hf hd in
/-- the match knows letters by their being alike alone -/
theorem ematch_map (want got : Str) : ematch (mapc f want) (mapc f got) = ematch want got := by
  unfold ematch
  rw [hasDots_map hf hd, split_map hf hd, emFront_map hf, mapc_beq hf]
include hf hd in
theorem emOk_map (want got : Str) : emOk (mapc f want) (mapc f got) = emOk want got := by
  unfold emOk
  have e : ∀ n, Builtin.Str.occurrences (mapc f want) dots 0 want.length n = Builtin.Str.occurrences want dots 0 want.length n := fun n => by
    conv => { lhs; rw [← mapc_dots hd] }
    exact occ_map hf want dots 0 want.length n
  rw [hasDots_map hf hd, split_map hf hd, mapc_length, mapc_length, e, parts_map, List.length_map, List.length_map, List.all_map]
  have e2 : ((fun w : Str => decide (w.length ≤ 1000)) ∘ mapc f) = fun w => decide (w.length ≤ 1000) := by
    funext w; show decide ((mapc f w).length ≤ 1000) = _; rw [mapc_length]
  rw [e2]
end

section
variable {prog : Program} {w : World} {A : Around} {E : Value → Shared → Prop} {s : Shared} {b : Array UInt8} {t : Tok}
theorem next_item {it : Addr} {i : Nat} {c : UInt8} {Q : Value → Shared → Prop} (hit : KBw.IsBytesIter s.heap it b t i) (hx : b[i]? = some c)
    (hQ : ∀ h', KBw.IsBytesIter h' it b t (i + 1) → Heap.SameBut it s.heap h' → Q (.int (c.toNat : Int) s.toks) { s with heap := h', toks := s.toks + 1 }) : wpAny (model prog w) A (call (.builtin "next") [.ref it]) Q E s := by
  refine call_function_entry (by decide +kernel) (by decide +kernel) kdk_entry_next (kdk_args_next _) ?_
  unfold Builtin.«next»
  refine wpAny_bind (m := someArgs "next" 1 2 _) (wpAny_of_eq (a := [Value.ref it]) (by first | rfl | kernel_rfl!) ?_)
  dsimp only
  refine wpAny_bind (wpAny_specialOf (name := Str.ofString "__next__") (KBw.iter_typeIs hit) KBw.slot_next.lookup ?_)
  refine wpAny_ite_split (fun hab => absurd hab (by decide)) (fun _ => ?_)
  obtain ⟨o, ho, hc, hd⟩ := id hit
  refine wpAny_bind (wpAny_callSpecial?_slot (name := PySem.Str.ofString "__next__") (KBw.iter_typeIs hit) KBw.slot_next
    (wpAny_call_entry KBw.slot_next (KBw.iter_typeIs hit) KBw.entry_next ?_ (KBw.args_next _)))
  show wpAny _ _ (field (.ref it) 0 >>= _) _ _ s
  refine wpAny_bind (wpAny_field ho hd (x := .bytes b t) rfl ?_)
  show wpAny _ _ (if (Value.bytes b t == Value.none) = true then _ else _) _ _ s
  rw [if_neg (show ¬ ((Value.bytes b t == Value.none) = true) from Bool.false_ne_true)]
  show wpAny _ _ (field (.ref it) 1 >>= _) _ _ s
  refine wpAny_bind (wpAny_field ho hd (x := .int i 0) rfl ?_)
  refine wpAny_bind (wpAny_of_eq (a := b) rfl ?_)
  simp only [Int.toNat_natCast, hx]
  refine wpAny_bind (wpAny_setField ho hd (by simp) (wpAny_bind (wpAny_mkInt (wpAny_pure ⟨_, rfl, wpAny_pure ⟨_, rfl, hQ _ ?_ (Heap.SameBut.update ..)⟩⟩))))
  exact ⟨_, Heap.get?_update_self _ ho (Obj.isFreed_of_fields (Obj.data_mapFields hd _)), (Obj.cls_mapFields ..).trans hc, by
    rw [Obj.data_mapFields hd]; simp [rawInt]⟩
theorem next_end {it : Addr} {i : Nat} {Q : Value → Shared → Prop} (hh : A.handled = none) (hit : KBw.IsBytesIter s.heap it b t i) (hx : b[i]? = none)
    (hE : ∀ h₁ h' e, Heap.SameBut it s.heap h₁ → (∃ o', h₁.get? it = some o' ∧ Fld o') → Heap.NewExc h₁ h' e "StopIteration" → E (.ref e) { s with heap := h' }) : wpAny (model prog w) A (call (.builtin "next") [.ref it]) Q E s := by
  refine call_function_entry (by decide +kernel) (by decide +kernel) kdk_entry_next (kdk_args_next _) ?_
  unfold Builtin.«next»
  refine wpAny_bind (m := someArgs "next" 1 2 _) (wpAny_of_eq (a := [Value.ref it]) (by first | rfl | kernel_rfl!) ?_)
  dsimp only
  refine wpAny_bind (wpAny_specialOf (name := Str.ofString "__next__") (KBw.iter_typeIs hit) KBw.slot_next.lookup ?_)
  refine wpAny_ite_split (fun hab => absurd hab (by decide)) (fun _ => ?_)
  obtain ⟨o, ho, hc, hd⟩ := id hit
  refine wpAny_bind (wpAny_callSpecial?_slot (name := PySem.Str.ofString "__next__") (KBw.iter_typeIs hit) KBw.slot_next
    (wpAny_call_entry KBw.slot_next (KBw.iter_typeIs hit) KBw.entry_next ?_ (KBw.args_next _)))
  show wpAny _ _ (field (.ref it) 0 >>= _) _ _ s
  refine wpAny_bind (wpAny_field ho hd (x := .bytes b t) rfl ?_)
  show wpAny _ _ (if (Value.bytes b t == Value.none) = true then _ else _) _ _ s
  rw [if_neg (show ¬ ((Value.bytes b t == Value.none) = true) from Bool.false_ne_true)]
  show wpAny _ _ (field (.ref it) 1 >>= _) _ _ s
  refine wpAny_bind (wpAny_field ho hd (x := .int i 0) rfl ?_)
  refine wpAny_bind (wpAny_of_eq (a := b) rfl ?_)
  simp only [Int.toNat_natCast, hx]
  refine wpAny_bind (wpAny_rule (wpAny_bind (wpAny_setField ho hd (by simp) ?_)))
  show wpAny _ _ (newExc (.type "StopIteration") [] >>= _) _ _ _
  refine wpAny_bind ?_
  simp only [newExc, newTuple]
  refine wpAny_bind (wpAny_newObj_type ?_ (by size_fits))
  refine wpAny_bind (m := firstArgMember _ _) (wpAny_of_eq (a := Value.none) (by first | rfl | (simp only [firstArgMember]; rfl)) ?_)
  refine wpAny_newObj_type ?_ (by size_fits)
  simp only [raiseNew]
  refine wpAny_bind (wpAny_handled ?_)
  rw [show A.in1.handled = none from hh]
  refine wpAny_bind (wpAny_pure (wpAny_throw ?_))
  refine hE _ _ _ (Heap.SameBut.update ..) ⟨_, Heap.get?_update_self _ ho (Obj.isFreed_of_fields (Obj.data_mapFields hd _)), _, Obj.data_mapFields hd _, fun x t' z => by simp at z⟩ ⟨fun b o hb => Heap.get?_push_of_some _ (Heap.get?_push_of_some _ hb), ?_, ?_⟩
  · refine Heap.get?_none_of_le ?_
    simp [Heap.push, Heap.update]
  · exact ⟨_, _, Heap.get?_push_size _ rfl, rfl, rfl⟩
end

/-- a StopIteration was raised -/
noncomputable abbrev PostX (X : Prop) (C : Cfg) (T : List Addr) (env : Env) (fz : Bool) (he : Heap) (Oc : List Addr) (s : Shared) (E : Value → Shared → Prop) : Prop :=
  ∀ e h₁ h' O' m' tk, GI C h₁ → Kd s.heap h₁ → FS C T env he Oc O' h₁ fz m' → Heap.NewExc h₁ h' e "StopIteration" → X → E (.ref e) { s with heap := h', toks := tk }
noncomputable def DoSX (X : Prop) (C : Cfg) (T : List Addr) (k : Nat) (env : Env) (fz : Bool) (st : Stmt) (m : Mp) (Q : Fl → Mp → Prop) : Prop :=
  ∀ (A : Around) (he : Heap) (Oc O : List Addr) (s : Shared) (Qh : Flow → Shared → Prop) (E : Value → Shared → Prop), GI C s.heap → FS C T env he Oc O s.heap fz m → Room C k A s.heap → PassesOwn C.M A env E → PostF C T env fz he Oc s Q Qh → PostX X C T env fz he Oc s E → wpAny C.M A (exec st env) Qh E s
noncomputable def DoX (X : Prop) (C : Cfg) (T : List Addr) (k : Nat) (env : Env) (fz : Bool) (ss : List Stmt) (m : Mp) (Q : Fl → Mp → Prop) : Prop :=
  ∀ (A : Around) (he : Heap) (Oc O : List Addr) (s : Shared) (Qh : Flow → Shared → Prop) (E : Value → Shared → Prop), GI C s.heap → FS C T env he Oc O s.heap fz m → Room C k A s.heap → PassesOwn C.M A env E → PostF C T env fz he Oc s Q Qh → PostX X C T env fz he Oc s E → wpAny C.M A (execs ss env) Qh E s
theorem PostX.later {X : Prop} {C T env fz he Oc} {s : Shared} {E} {h₁ : Heap} {tk : Nat} (p : PostX X C T env fz he Oc s E) (k : Kd s.heap h₁) : PostX X C T env fz he Oc { s with heap := h₁, toks := tk } E :=
  fun e h₂ h' O' m' tk g kd F x y => p e h₂ h' O' m' tk g (k.trans kd) F x y
section
variable {X : Prop} {C : Cfg} {T : List Addr} {k : Nat} {env : Env} {fz : Bool} {m m' : Mp} {Q : Fl → Mp → Prop}
theorem DoSX.of {st : Stmt} (h : DoS C T k env fz st m Q) : DoSX X C T k env fz st m Q := fun A he Oc O s Qh E g F R _ p _ => h A he Oc O s Qh E g F R p
theorem DoX.of {ss : List Stmt} (h : Do C T k env fz ss m Q) : DoX X C T k env fz ss m Q := fun A he Oc O s Qh E g F R _ p _ => h A he Oc O s Qh E g F R p
theorem DoX.cons {st : Stmt} {rest : List Stmt} (h : DoSX X C T k env fz st m fun f m' => match f with | .next => DoX X C T k env fz rest m' Q | f => Q f m') : DoX X C T k env fz (st :: rest) m Q := by
  intro A he Oc O s Qh E g F R hP p px
  refine wpAny_execs_cons (h A he Oc O s _ E g F R hP (fun f fd m' O' h' tk q g' kd F' b => ?_) px)
  cases f <;> cases fd <;> first | exact b.elim | exact q A he Oc O' _ Qh E g' F' (R.kd kd) hP (p.later kd) (px.later kd) | exact p _ _ m' O' h' tk q g' kd F' b
noncomputable def itP (b : Array UInt8) (t : Tok) (i : Nat) (o : Obj) : Prop := o.cls = .type "bytes_iterator" ∧ o.data = .fields #[.bytes b t, .int i 0]
theorem itP.fld {b : Array UInt8} {t : Tok} {i : Nat} {o : Obj} (h : itP b t i o) : Fld o := ⟨_, h.2, fun x t' z => by simp at z⟩
/-- b = next(iterator), an octet left -/
theorem DoSX.next {x y : Str} {p' pn py pos pos' : Pos} {I : Addr} {b : Array UInt8} {t : Tok} {i : Nat} {c : UInt8} (W : Wd C) (hk : env.kindOf "next" = some .globalImplicit) (hy : m.lookup y = some (.ob I (itP b t i))) (hyl : Loc env y) (hx : CanBind env fz x) (hc : b[i]? = some c)
    (q : Q .next ((x, .d (.int (c.toNat : Int))) :: (y, .ob I (itP b t (i + 1))) :: m))
    (hs : swapsWith (.Call (.Name "next" pn) [.Name y py] [] pos) (some (.Name x p')) pos'.line env = pure false := by rfl)
    (hd : (y == ("__debug__" : Str)) = false := by decide) (hcd : (y == ("__classdict__" : Str)) = false := by decide) :
    DoSX X C T k env fz (.Assign [.Name x p'] (.Call (.Name "next" pn) [.Name y py] [] pos) pos') m Q := by
  intro A he Oc O s Qh E g F R hP p px
  refine wpAny_Assign_Name ?_ hs
  refine wpAny_Call_Name_kw (EvB.glob W.st hk W.next (by decide) A T he Oc O s fz _ _ g F R fun v tk r => ?_)
  cases r
  refine callWith_fn (.bi "next") ((NoStar.cons NoStar.nil : NoStar [Expr.Name y py]) _ _) (wpAny_items_cons (EvB.name hy hyl hd hcd A T he Oc O _ fz _ _ g F R fun v tk r => wpAny_items_nil ⟨g, ?_⟩))
  obtain ⟨rfl, h1, h2, h3, o, h4, h5, h6⟩ := r
  refine next_item ⟨o, h4, h5.1, h5.2⟩ hc fun h' hit hsb => ?_
  obtain ⟨o', ho', hc', hd'⟩ := hit
  have F1 := F.setObj hsb.extBut hy rfl (b' := .ob I (itP b t (i + 1))) (fun _ => ⟨rfl, h1, h2, h3, o', ho', ⟨hc', hd'⟩, itP.fld ⟨hc', hd'⟩⟩) rfl
  have g1 := F.giObj g hsb.extBut hy rfl
  have kd1 := F.kdObj hsb.extBut hy rfl
  refine F1.bind (s := { s with heap := h', toks := _ }) g1 hx.1 hx.2 (b := .d (.int (c.toNat : Int))) (.int _ _) (.none rfl) fun h₂ tk₂ kp g₂ F₂ => ?_
  exact p .next .next _ _ h₂ tk₂ q g₂ (Kd.trans kd1 kp.dict) F₂ trivial
/-- b = next(iterator), no octet left -/
theorem DoSX.nextEnd {x y : Str} {p' pn py pos pos' : Pos} {I : Addr} {b : Array UInt8} {t : Tok} {i : Nat} (W : Wd C) (hk : env.kindOf "next" = some .globalImplicit) (hy : m.lookup y = some (.ob I (itP b t i))) (hyl : Loc env y) (hc : b[i]? = none) (hX : X)
    (hs : swapsWith (.Call (.Name "next" pn) [.Name y py] [] pos) (some (.Name x p')) pos'.line env = pure false := by rfl)
    (hd : (y == ("__debug__" : Str)) = false := by decide) (hcd : (y == ("__classdict__" : Str)) = false := by decide) :
    DoSX X C T k env fz (.Assign [.Name x p'] (.Call (.Name "next" pn) [.Name y py] [] pos) pos') m Q := by
  intro A he Oc O s Qh E g F R hP p px
  refine wpAny_Assign_Name ?_ hs
  refine wpAny_Call_Name_kw (EvB.glob W.st hk W.next (by decide) A T he Oc O s fz _ _ g F R fun v tk r => ?_)
  cases r
  refine callWith_fn (.bi "next") ((NoStar.cons NoStar.nil : NoStar [Expr.Name y py]) _ _) (wpAny_items_cons (EvB.name hy hyl hd hcd A T he Oc O _ fz _ _ g F R fun v tk r => wpAny_items_nil ⟨g, ?_⟩))
  obtain ⟨rfl, h1, h2, h3, o, h4, h5, h6⟩ := r
  refine next_end R.handled ⟨o, h4, h5.1, h5.2⟩ hc fun h₁ h' e hsb ho' hx => ?_
  obtain ⟨o', ho', hfl⟩ := ho'
  have F1 := F.setObj hsb.extBut hy rfl (b' := .ob I fun _ => True) (fun _ => ⟨rfl, h1, h2, h3, o', ho', trivial, hfl⟩) rfl
  exact px e h₁ h' _ _ _ (F.giObj g hsb.extBut hy rfl) (F.kdObj hsb.extBut hy rfl) F1 hx hX
end

section
variable {X : Prop} {C : Cfg} {T : List Addr} {k : Nat} {env : Env} {fz : Bool} {m m' : Mp} {Q : Fl → Mp → Prop}
theorem DoSX.while {test : Expr} {body : List Stmt} {pos : Pos} (inv : Nat → Mp → Prop)
    (turn : ∀ n m, inv n m → ∃ b, Te C k env m test b ∧ (b = true → DoX X C T k env fz body m fun f m' => match f with | .next => ∃ n', n' < n ∧ inv n' m' | .cont => ∃ n', n' < n ∧ inv n' m' | .brk => Q .next m' | .ret d => Q (.ret d) m') ∧ (b = false → Q .next m))
    (n : Nat) (h : inv n m) : DoSX X C T k env fz (.While test body [] pos) m Q := by
  intro A he Oc O s Qh E g F R hP p px
  refine wpAny_While (codeAny_whileLoop (fun n s' => ∃ h' tk O' m', s' = { s with heap := h', toks := tk } ∧ inv n m' ∧ GI C h' ∧ Kd s.heap h' ∧ FS C T env he Oc O' h' fz m') ?_ n ⟨s.heap, s.toks, O, m, rfl, h, g, .refl _, F⟩)
  rintro n _ ⟨h', tk, O', m', rfl, hi, g', kd, F'⟩
  obtain ⟨b, ht, hb, hn⟩ := turn n m' hi
  refine ht A T he Oc O' _ fz _ _ g' F' (R.kd kd) fun h₁ tk₁ k₁ g₁ => ?_
  have kd1 := kd.trans k₁.dict
  cases b with
  | false => exact wpAny_execs_nil (p .next .next m' O' h₁ tk₁ (hn rfl) g₁ kd1 (F'.kp k₁) trivial)
  | true =>
    refine wpAny_passesOwn hP ?_
    refine hb rfl A he Oc O' _ _ _ g₁ (F'.kp k₁) (R.kd kd1) hP (fun f fd m₂ O₂ h₂ tk₂ q g₂ kd₂ F₂ fb => ?_) (px.later kd1)
    have kd2 := kd1.trans kd₂
    cases f <;> cases fd <;> first
      | exact fb.elim
      | (obtain ⟨n', h1, h2⟩ := q; exact ⟨n', h1, h₂, tk₂, O₂, m₂, rfl, h2, g₂, kd2, F₂⟩)
      | exact p _ _ m₂ O₂ h₂ tk₂ q g₂ kd2 F₂ fb
      | exact p .next .next m₂ O₂ h₂ tk₂ q g₂ kd2 F₂ trivial
end

noncomputable def pvLoop : List UInt8 → Nat → Int → Int → Option (Int × Nat)
  | [], i, val, bb => if (Builtin.bitAnd bb 64 != 0) = true then none else some (val, i)
  | c :: r, i, val, bb => if (Builtin.bitAnd bb 64 != 0) = true then pvLoop r (i + 1) (Builtin.bitOr (val * 2 ^ (6 : Int).toNat) (Builtin.bitAnd (c.toNat : Int) 63)) (c.toNat : Int) else some (val, i)
noncomputable def pv : List UInt8 → Nat → Option (Int × Nat)
  | [], _ => none
  | c :: r, i => pvLoop r (i + 1) (Builtin.bitAnd (c.toNat : Int) 63) (c.toNat : Int)
theorem and63 (c : UInt8) : 0 ≤ Builtin.bitAnd (c.toNat : Int) 63 ∧ Builtin.bitAnd (c.toNat : Int) 63 < 64 := by
  have h := and_mask (a := (c.toNat : Int)) (by omega) 6
  rw [show (2 : Int) ^ 6 - 1 = 63 by decide, show (2 : Int) ^ 6 = 64 by decide] at h
  rw [h]; omega
theorem drop_cons {b : Array UInt8} {i : Nat} {c : UInt8} {r : List UInt8} (h : b.toList.drop i = c :: r) : b[i]? = some c ∧ b.toList.drop (i + 1) = r := by
  have h1 : b.toList[i]? = some c := by rw [← List.head?_drop, h]; rfl
  refine ⟨by rw [← Array.getElem?_toList]; exact h1, ?_⟩
  rw [← List.drop_drop, h]; rfl
theorem drop_nil {b : Array UInt8} {i : Nat} (h : b.toList.drop i = []) : b[i]? = none := by
  rw [← Array.getElem?_toList, ← List.head?_drop, h]; rfl
theorem DoX.sub {X : Prop} {C : Cfg} {T : List Addr} {k : Nat} {env : Env} {fz : Bool} {m m' : Mp} {Q : Fl → Mp → Prop} {ss : List Stmt} (h : DoX X C T k env fz ss m Q) (hs : Sub m' m) : DoX X C T k env fz ss m' Q := fun A he Oc O s Qh E g F R hP p px => h A he Oc O s Qh E g (F.sub hs) R hP p px
theorem parse_body {C : Cfg} (W : Wd C) {k : Nat} {I L : Addr} {pm code doc : Value} {b : Array UInt8} {t : Tok} {i : Nat} (hsz : b.size ≤ 1000) :
    DoX (pv (b.toList.drop i) i = none) C (I :: C.T) k (callEnv (dParse.data pm code doc) L W.aParse) true dParse.body [("iterator", .ob I (itP b t i))] fun f m' => ∃ v j, pv (b.toList.drop i) i = some (v, j) ∧ f = .ret (.int v) ∧ m'.lookup (Str.ofString "iterator") = some (.ob I (itP b t j)) := by
  cases hl : b.toList.drop i with
  | nil => exact DoX.cons (DoSX.nextEnd W rfl rfl (.inl rfl) (drop_nil hl) rfl)
  | cons c r =>
    obtain ⟨hc, hr⟩ := drop_cons hl
    refine DoX.cons (DoSX.next W rfl rfl (.inl rfl) ⟨.inl rfl, nofun⟩ hc ?_)
    dsimp only
    refine DoX.cons (DoSX.of (DoS.assign ⟨.inl rfl, nofun⟩ (d := .int (Builtin.bitAnd (c.toNat : Int) 63)) ?_ ?_))
    · walk_at "ev"
    dsimp only
    obtain ⟨v0, v1⟩ := and63 c
    refine DoX.cons (DoSX.while (fun n m => ∃ (l : List UInt8) (j : Nat) (val bb : Int), n = l.length ∧ l = b.toList.drop j ∧ j + l.length ≤ 1000 ∧ pvLoop l j val bb = pv (c :: r) i ∧ 0 ≤ val ∧ val < 2 ^ (6 * j) ∧ Sub m [("b", .d (.int bb)), ("val", .d (.int val)), ("iterator", .ob I (itP b t j))]) (fun n m hi => ?_) r.length ⟨r, i + 1, _, _, rfl, hr.symm, ?_, rfl, v0, ?_, SubL.sub (by repeat (first | exact trivial | refine ⟨rfl, ?_⟩))⟩)
    · obtain ⟨l, j, val, bb, rfl, hlj, hj, hpv, h0, h1, hm⟩ := hi
      refine ⟨Builtin.bitAnd bb 64 != 0, Te.sub ?_ hm, fun hb => ?_, fun hb => ?_⟩
      · walk_at "ev"
      · refine DoX.sub ?_ hm
        have hbits := bits_bound h0 h1
        refine DoX.cons (DoSX.of (DoS.aug (d0 := .int val) (d1 := .int 6) (d := .int (val * 2 ^ (6 : Int).toNat)) ⟨.inl rfl, nofun⟩ rfl ?_ (op_ilshift (by decide) (by omega)) ?_))
        · walk_at "ev"
        dsimp only
        cases l with
        | nil => exact DoX.cons (DoSX.nextEnd W rfl rfl (.inl rfl) (drop_nil hlj.symm) (by rw [← hpv, pvLoop, if_pos hb]))
        | cons c' r' =>
          obtain ⟨hc', hr'⟩ := drop_cons hlj.symm
          refine DoX.cons (DoSX.next W rfl rfl (.inl rfl) ⟨.inl rfl, nofun⟩ hc' ?_)
          dsimp only
          obtain ⟨w0, w1⟩ := and63 c'
          have hor : Builtin.bitOr (val * 2 ^ (6 : Int).toNat) (Builtin.bitAnd (c'.toNat : Int) 63) = val * 2 ^ 6 + Builtin.bitAnd (c'.toNat : Int) 63 := or_add h0 w0 6 w1
          refine DoX.of (Do.cons (DoS.aug (d0 := .int (val * 2 ^ (6 : Int).toNat)) (d1 := .int (Builtin.bitAnd (c'.toNat : Int) 63)) (d := .int (Builtin.bitOr (val * 2 ^ (6 : Int).toNat) (Builtin.bitAnd (c'.toNat : Int) 63))) ⟨.inl rfl, nofun⟩ rfl ?_ op_ior (Do.nil ?_)))
          · walk_at "ev"
          · dsimp only
            rw [List.length_cons] at hj
            refine ⟨r'.length, by rw [List.length_cons]; omega, r', j + 1, _, _, rfl, hr'.symm, by omega, ?_, ?_, ?_, SubL.sub (by repeat (first | exact trivial | refine ⟨rfl, ?_⟩))⟩
            · rw [← hpv, pvLoop, if_pos hb]
            · rw [hor]; have : (2 : Int) ^ 6 = 64 := rfl; omega
            · rw [hor, show 6 * (j + 1) = 6 * j + 6 by omega, nat_pow_add]; have : (2 : Int) ^ 6 = 64 := rfl; omega
      · dsimp only
        have e : pv (c :: r) i = some (val, j) := by
          rw [← hpv]
          cases l <;> rw [pvLoop, if_neg (by rw [hb]; decide)]
        refine DoX.sub (DoX.of (Do.cons (DoS.ret (d := .int val) ?_ ⟨val, j, e, rfl, ?_⟩))) hm
        · walk_at "ev"
        · rfl
    · have h1 := congrArg List.length hr
      rw [List.length_drop, Array.length_toList] at h1
      have h2 : i < b.size := (Array.getElem?_eq_some_iff.mp hc).1
      omega
    · have h1 : (64 : Int) ≤ 2 ^ (6 * (i + 1)) := by
        rw [show 6 * (i + 1) = 6 * i + 6 by omega, nat_pow_add]
        have := two_pos (6 * i)
        have : (2 : Int) ^ 6 = 64 := rfl
        omega
      omega

/-- a name's raw value is an owned object -/
theorem FS.reob {C : Cfg} {T : List Addr} {env : Env} {he h : Heap} {Oc O : List Addr} {fz : Bool} {x : Str} {I : Addr} {P : Obj → Prop} (F : FS C T env he Oc O h fz [(x, .v (.ref I))]) (r : Bears C T he O h (.ref I) (.ob I P)) :
    FS C T env he Oc O h fz [(x, .ob I P)] := by
  obtain ⟨mm, hn, hm⟩ := F.bear
  refine { F with bear := ⟨mm, hn, fun y b ey => ?_⟩, disj := fun y z by' bz a e1 e2 _ _ => ?_ }
  · by_cases hy : y = x
    · subst hy; rw [lk_self] at ey; cases ey
      obtain ⟨q1, q2, _⟩ := hm y _ lk_self
      exact ⟨fun z => let ⟨v, e1, e2⟩ := q1 z; ⟨v, e1, (show v = .ref I from e2) ▸ r⟩, fun z => let ⟨c, v, e1, e2, e3⟩ := q2 z; ⟨c, v, e1, e2, (show v = .ref I from e3) ▸ r⟩, _, r⟩
    · rw [lk_ne hy] at ey; cases ey
  · have one : ∀ w bw, ([(x, Bd.ob I P)] : Mp).lookup w = some bw → w = x := fun w bw e => by
      by_cases hw : w = x
      · exact hw
      · rw [lk_ne hw] at e; cases e
    rw [one y _ e1, one z _ e2]

/-- a heap's dicts taken out, but for those told -/
noncomputable def dropDict (keep : Addr → Bool) (b : Addr) (o : Obj) : Obj := match o.data with | .dict _ _ => if keep b then o else { o with data := .freed } | _ => o
noncomputable def noDicts (keep : Addr → Bool) (h : Heap) : Heap := { h with objs := h.objs.mapIdx fun b o => dropDict keep b o }
theorem get?_eq (h : Heap) (b : Addr) : h.get? b = match h.objs[b]? with | some o => if o.isFreed then none else some o | none => none := by
  unfold Heap.get?
  cases h.objs[b]? with
  | none => rfl
  | some o => obtain ⟨c, d, dt, s⟩ := o; cases dt <;> rfl
theorem noDicts_get {keep : Addr → Bool} {h : Heap} {b : Addr} {o : Obj} (e : (noDicts keep h).get? b = some o) : h.get? b = some o ∧ (keep b = false → ∀ es ep, o.data ≠ .dict es ep) := by
  rw [get?_eq] at e
  rw [get?_eq]
  unfold noDicts at e
  rw [Array.getElem?_mapIdx] at e
  cases hq : h.objs[b]? with
  | none => rw [hq] at e; cases e
  | some q =>
    rw [hq, Option.map_some] at e
    obtain ⟨c, d, dt, s⟩ := q
    cases hk : keep b <;> cases dt <;> simp [dropDict, Obj.isFreed, hk] at e <;> subst e <;> refine ⟨by simp [Obj.isFreed], ?_⟩ <;> (intro hk' es ep z; first | (cases z; done) | (simp [hk] at hk'))
theorem get_noDicts {keep : Addr → Bool} {h : Heap} {b : Addr} {o : Obj} (e : h.get? b = some o) (hd : keep b = false → ∀ es ep, o.data ≠ .dict es ep) : (noDicts keep h).get? b = some o := by
  rw [get?_eq] at e ⊢
  unfold noDicts
  rw [Array.getElem?_mapIdx]
  cases hq : h.objs[b]? with
  | none => rw [hq] at e; cases e
  | some q =>
    rw [hq] at e
    rw [Option.map_some]
    obtain ⟨c, d, dt, s⟩ := q
    cases hk : keep b <;> cases dt <;> simp [dropDict, Obj.isFreed, hk] at e ⊢ <;> first | exact e | (subst e; exact absurd rfl (hd hk _ _))

noncomputable abbrev xBase (C : Cfg) (h : Heap) : Heap := noDicts (fun b => (C.base b).isSome) h
/-- what an exception's leaving a frame keeps -/
theorem Kp.left {C : Cfg} {O : List Addr} {h₁ h₂ h' : Heap} {e : Addr} {l : List Env} {cls : Value} {cn : String} (nx : Heap.NewExc h₁ h₂ e cn) (L : Heap.Left (xBase C h₁) l e cls h₂ h') : Kp C O h₁ h' := by
  obtain ⟨x1, _, _, x4⟩ := L
  have key : ∀ b o, h₁.get? b = some o → h'.get? b = some o ∨ (C.base b = none ∧ (∃ es ep, o.data = .dict es ep) ∧ ∃ sl, h'.get? b = some { o with slots := sl }) := fun b o e1 => by
    by_cases hk : (C.base b).isSome = true
    · exact .inl (x1 b o (get_noDicts e1 fun z => by rw [hk] at z; cases z))
    · have hb : C.base b = none := by simpa using hk
      by_cases hd : ∃ es ep, o.data = .dict es ep
      · obtain ⟨es, ep, hd⟩ := hd
        obtain ⟨sl, h4⟩ := x4 b o (nx.keeps b o e1) fun vs z => by rw [hd] at z; cases z
        exact .inr ⟨hb, ⟨es, ep, hd⟩, sl, h4⟩
      · exact .inl (x1 b o (get_noDicts e1 fun _ es ep z => hd ⟨es, ep, z⟩))
  refine ⟨fun b o e1 => ?_, fun b o _ e1 => key b o e1, fun b o es ep e1 d => ?_⟩
  · rcases key b o e1 with h | ⟨_, _, sl, h⟩
    · exact ⟨_, h⟩
    · exact ⟨_, h⟩
  · rcases key b o e1 with h | ⟨_, _, sl, h⟩
    · exact ⟨_, es, ep, h, d⟩
    · exact ⟨_, es, ep, h, d⟩
theorem GI.left {C : Cfg} {h₁ h' : Heap} (g : GI C h₁) (k : Kp C [] h₁ h') : GI C h' := by
  have key : ∀ b o, h₁.get? b = some o → (∀ es ep, o.data ≠ .dict es ep) → h'.get? b = some o := fun b o e hd => (k.keep b o (by simp) e).elim id fun ⟨_, ⟨es, ep, z⟩, _⟩ => absurd z (hd es ep)
  refine g.keeps (fun b o e1 e2 => (k.keep b o (by simp) e2).elim id fun z => by rw [z.1] at e1; cases e1) (fun b o hb e => ?_) fun b o e hc => ?_
  · refine key b o e fun es ep z => ?_
    rcases List.mem_cons.mp hb with rfl | hb
    · obtain ⟨ps, e', _⟩ := g.tabi; rw [e'] at e; cases e; cases z
    · rcases List.mem_cons.mp hb with rfl | hb
      · obtain ⟨ps, e', _⟩ := g.tabd; rw [e'] at e; cases e; cases z
      · cases hb
  · refine key b o e fun es ep z => ?_
    obtain ⟨vs, x, t, d, _⟩ := hc
    rw [d] at z; cases z

/-- what an exception's being noted and leaving keeps -/
theorem Kp.stays {C : Cfg} {O : List Addr} {h₁ h₂ h' : Heap} (keeps : ∀ b o, h₁.get? b = some o → h₂.get? b = some o) (x1 : (xBase C h₁).StaysIn h') (x4 : h₂.UpToSlots h') : Kp C O h₁ h' := by
  have key : ∀ b o, h₁.get? b = some o → h'.get? b = some o ∨ (C.base b = none ∧ (∃ es ep, o.data = .dict es ep) ∧ ∃ sl, h'.get? b = some { o with slots := sl }) := fun b o e1 => by
    by_cases hk : (C.base b).isSome = true
    · exact .inl (x1 b o (get_noDicts e1 fun z => by rw [hk] at z; cases z))
    · have hb : C.base b = none := by simpa using hk
      by_cases hd : ∃ es ep, o.data = .dict es ep
      · obtain ⟨es, ep, hd⟩ := hd
        obtain ⟨sl, h4⟩ := x4 b o (keeps b o e1) fun vs z => by rw [hd] at z; cases z
        exact .inr ⟨hb, ⟨es, ep, hd⟩, sl, h4⟩
      · exact .inl (x1 b o (get_noDicts e1 fun _ es ep z => hd ⟨es, ep, z⟩))
  refine ⟨fun b o e1 => ?_, fun b o _ e1 => key b o e1, fun b o es ep e1 d => ?_⟩
  · rcases key b o e1 with h | ⟨_, _, sl, h⟩
    · exact ⟨_, h⟩
    · exact ⟨_, h⟩
  · rcases key b o e1 with h | ⟨_, _, sl, h⟩
    · exact ⟨_, es, ep, h, d⟩
    · exact ⟨_, es, ep, h, d⟩
/-- a StopIteration on its way through the frames `outer` -/
noncomputable def Flew (C : Cfg) (I : Addr) (outer : List Env) (e : Addr) (h h' : Heap) : Prop :=
  ∃ (h₁ h₂ : Heap) (a0 : Value), Kp C (I :: C.T) h h₁ ∧ GI C h₁ ∧ (∀ b o, h₁.get? b = some o → h₂.get? b = some o) ∧ h₂.UpToSlots h' ∧ Heap.FlyingW (xBase C h₁) outer e (.type "StopIteration") a0 h'
theorem Flew.kp {C : Cfg} {I : Addr} {outer : List Env} {e : Addr} {h h' : Heap} (x : Flew C I outer e h h') : Kp C (I :: C.T) h h' := by
  obtain ⟨h₁, h₂, a0, k, g, ke, u, f⟩ := x
  exact k.trans' (Kp.stays ke f.1 u)
theorem Flew.gi {C : Cfg} {I : Addr} {outer : List Env} {e : Addr} {h h' : Heap} (x : Flew C I outer e h h') : GI C h' := by
  obtain ⟨h₁, h₂, a0, k, g, ke, u, f⟩ := x
  exact g.left (Kp.stays ke f.1 u)
theorem Room.fun {C : Cfg} {k : Nat} {A : Around} {h h₁ : Heap} (R : Room C k A h) : ∃ outer, A.frames = some outer ∧ ((∀ b o es ep, h.get? b = some o → o.data = .dict es ep → C.base b = none → ∃ o' es' ep', h₁.get? b = some o' ∧ o'.data = .dict es' ep' ) → h₁.FunFrames (xBase C h) outer) := by
  obtain ⟨outer, e, q⟩ := R.frames
  refine ⟨outer, e, fun hk => ?_⟩
  clear e
  induction outer with
  | nil => trivial
  | cons env r ih =>
    obtain ⟨q1, L, o, es, ep, q2, q3, q4, q5⟩ := q env (.head _)
    obtain ⟨o', es', ep', e1, e2⟩ := hk L o es ep q4 q5 q3
    have hn : (xBase C h).get? L = none := by
      cases hx : (xBase C h).get? L with
      | none => rfl
      | some ox =>
        obtain ⟨y1, y2⟩ := noDicts_get hx
        rw [q4] at y1; cases y1
        exact absurd q5 (y2 (by rw [q3]; rfl) es ep)
    refine ⟨q1, ⟨L, o', q2, hn, e1, fun vs z => by rw [e2] at z; cases z⟩, ih fun en hen => q en (.tail _ hen)⟩
theorem parse_spec {C : Cfg} (W : Wd C) {k : Nat} {I : Addr} {b : Array UInt8} {t : Tok} {i : Nat} (hsz : b.size ≤ 1000) {A : Around} {O : List Addr} {s : Shared} {Q E : Value → Shared → Prop} {outer : List Env} (g : GI C s.heap) (av : Av C O s.heap) (hIO : I ∈ O) (hIT : I ∉ C.T) (hit : ∃ o, s.heap.get? I = some o ∧ itP b t i o) (R : Room C (k + 1) A s.heap) (hfr : A.frames = some outer)
    (ok : ∀ v j h' tk tv, pv (b.toList.drop i) i = some (v, j) → Kp C (I :: C.T) s.heap h' → GI C h' → (∃ o, h'.get? I = some o ∧ itP b t j o) → Q (.int v tv) { s with heap := h', toks := tk })
    (ex : ∀ e h' tk, pv (b.toList.drop i) i = none → Flew C I outer e s.heap h' → E (.ref e) { s with heap := h', toks := tk }) : wpAny C.M A (PySem.call (.ref W.aParse) [.ref I]) Q E s := by
  obtain ⟨o, pm, code, doc, e, hdat, hcr⟩ := W.hParse.fn
  obtain ⟨oI, hoI, hpI⟩ := hit
  refine wpAny_call (codeAny_call_def (body := dParse.body) (binds := [(Str.ofString "iterator", .ref I)]) (by have := R.depth; omega) (g.base _ _ e) hdat (W.st.ns _ g).2.2 (hcr _ g) rfl (BindsTo.of_eq rfl) ?_ ?_ (fun h₀ hn keep => ?_))
  · have hnc : ∀ x ∈ dParse.scope.names, x.2 ≠ .cell := by decide
    exact fun x hx => hnc x hx
  · intro x hx
    simp only [List.mem_cons, List.not_mem_nil, or_false] at hx
    subst hx; rfl
  · have F := FS.enterClo (T := I :: C.T) (a := W.aParse) (fd := dParse.data pm code doc) (binds := [(Str.ofString "iterator", .ref I)]) (m := [(Str.ofString "iterator", .v (.ref I))]) (mc := [])
        g av (fun _ z => .tail _ z) (fun b hb => (List.mem_cons.mp hb).elim (fun z => z ▸ hIO) (av.1 b)) rfl rfl rfl hn keep (.cons ⟨rfl, rfl⟩ .nil) (fun x c e => by cases e) (fun x y c e1 e2 => by cases e1) (fun x v hx => by
          simp only [List.mem_cons, Prod.mk.injEq, List.not_mem_nil, or_false] at hx
          rw [hx.1]; rfl) (fun x b e => by cases e) (fun x y bx by' a e1 e2 a1 a2 => by cases e1)
    have F1 := F.reob (I := I) (P := itP b t i) ⟨rfl, .tail _ hIO, hIT, .inr (.head _), oI, keep _ _ hoI, hpI, hpI.fld⟩
    have g0 : GI C h₀ := g.keepAll keep
    obtain ⟨oL, es, ep, eL, dL, _⟩ := id hn
    have kd : Kd s.heap h₀ := (Kp.of_keeps (C := C) (O := []) keep).dict
    have Rd := R.deeper kd (env := callEnv (dParse.data pm code doc) s.heap.objs.size W.aParse) rfl (L := s.heap.objs.size) rfl (g.fresh (size_none _)) ⟨oL, es, ep, eL, dL⟩
    refine parse_body W hsz _ s.heap O _ _ _ _ g0 F1 Rd PassesOwn.leaving (fun f fd m' O₂ h₂ tk₂ q g₂ kd₂ F₂ fb => ?_) (fun e h₁ h' O' m' tk g₁ kd₁ F₁ nx hp => ?_)
    · obtain ⟨v, j, q1, rfl, q2⟩ := q
      cases f <;> first | exact fb.elim | skip
      cases fb
      obtain ⟨_, _, _, _, o', h4, h5, _⟩ := F₂.getA q2 rfl
      exact ok v j h₂ tk₂ _ q1 F₂.ext g₂ ⟨o', h4, h5⟩
    · obtain ⟨ob, te, he, hcl, hda⟩ := nx.there
      obtain ⟨outer', eo, hf⟩ := (Rd.kd kd₁).fun (h₁ := h')
      have eo' : outer' = callEnv (dParse.data pm code doc) s.heap.objs.size W.aParse :: outer := by
        have : A.frames.map (callEnv (dParse.data pm code doc) s.heap.objs.size W.aParse :: ·) = some outer' := eo
        rw [hfr] at this
        exact (Option.some.inj this).symm
      subst eo'
      have hbn : (xBase C h₁).get? e = none := by
        cases hx : (xBase C h₁).get? e with
        | none => rfl
        | some ox => exact absurd (noDicts_get hx).1 (by rw [nx.new]; nofun)
      refine wpAny_leaving_firstW (base := xBase C h₁) (L := s.heap.objs.size) eo (hf fun b o es ep e1 d _ => ⟨o, es, ep, nx.keeps b o e1, d⟩) rfl he (fun b o hb => nx.keeps b o (noDicts_get hb).1) hbn hda rfl rfl fun h'' L => ?_
      obtain ⟨x1, ⟨_, _, x2⟩, x3, x4⟩ := L
      exact ex e h'' tk hp ⟨h₁, h', te, F₁.ext, g₁, nx.keeps, x4, x1, hbn, x2, hcl ▸ x3⟩

/-- an owned record turned by a call -/
theorem FS.kpOb {C : Cfg} {T : List Addr} {env : Env} {he h h' : Heap} {Oc O : List Addr} {m : Mp} {fz : Bool} {x : Str} {a : Addr} {P P' : Obj → Prop} (F : FS C T env he Oc O h fz m) (k : Kp C (a :: C.T) h h') (e : m.lookup x = some (.ob a P))
    (hl : ∃ o, h'.get? a = some o ∧ P' o ∧ Fld o) : FS C T env he Oc O h' fz ((x, .ob a P') :: m) := by
  obtain ⟨mm, hn, hm⟩ := F.bear
  obtain ⟨_, _, v, hv, hO, hT, hH, o0, ho, _, hf0⟩ := hm x _ e
  have nd : ∀ es ep, o0.data ≠ .dict es ep := fun es ep z => by obtain ⟨vs, hd, _⟩ := hf0; rw [hd] at z; cases z
  have nc : ∀ v, o0.data ≠ .cell v := fun v z => by obtain ⟨vs, hd, _⟩ := hf0; rw [hd] at z; cases z
  have hTO : ∀ b ∈ a :: C.T, b ∈ O := fun b hb => (List.mem_cons.mp hb).elim (fun z => z ▸ hO) (F.tabs b)
  have mv : ∀ v b, b.addr ≠ some a → Bears C T he O h v b → Bears C T he O h' v b := fun v b hb z => z.moved (fun _ q => q)
    (fun c o e hc ⟨xs, n, hd⟩ => ⟨k.seq (fun q => hc (hTO c q)) e (fun es ep q => by rw [hd] at q; cases q), hc⟩)
    fun c o hc e hcT hf => k.seq (fun q => (List.mem_cons.mp q).elim (fun z => hb (z ▸ hc)) hcT) e fun es ep q => by rcases hf with ⟨vs, hd, _⟩ | ⟨xs, n, hd⟩ <;> rw [hd] at q <;> cases q
  have own : Bears C T he O h' (.ref a) (.ob a P') := ⟨rfl, hO, hT, hH, hl⟩
  obtain ⟨oL, es, ep, eL, dL, _⟩ := id hn
  have hLa : env.locals ≠ a := fun z => by rw [z, ho] at eL; cases eL; exact nd _ _ dL
  have cl : ∀ c v, c ∉ T → h.IsCell c v → h'.IsCell c v := fun c v hc z => k.cell (fun q => (List.mem_cons.mp q).elim (fun z' => by
    obtain ⟨o, e, d⟩ := z; rw [z', ho] at e; cases e; exact nc _ d) fun q => hc (F.tT _ q)) z
  refine ⟨F.kind, F.glob, F.blt, F.tabs, F.tT, F.tO, F.sup, fun b hb => ⟨(F.av b hb).1, let ⟨o, e⟩ := (F.av b hb).2; k.live b o e⟩, F.loc, fun y c ec => let ⟨a1, ⟨v, a2⟩, a3⟩ := F.cells y c ec; ⟨a1, ⟨v, cl c v a1 a2⟩, a3⟩, F.apart,
    ⟨mm, k.ns (fun q => (List.mem_cons.mp q).elim hLa fun q => F.locT (F.tT _ q)) hn, fun y b ey => ?_⟩, disj_cons F.disj fun y by' a' hy e1 e2 e3 => ?_, F.ext.trans k fun b hb => ?_⟩
  · by_cases hy : y = x
    · subst hy; rw [lk_self] at ey; cases ey
      obtain ⟨q1, q2, _⟩ := hm y _ e
      exact ⟨fun hl => let ⟨v, e1, e2⟩ := q1 hl; ⟨v, e1, e2.1 ▸ own⟩, fun hl => let ⟨c, v, e1, e2, e3⟩ := q2 hl; ⟨c, v, e1, cl c _ (F.cells y c e1).1 e2, e3.1 ▸ own⟩, _, own⟩
    · rw [lk_ne hy] at ey
      obtain ⟨q1, q2, v, q3⟩ := hm y b ey
      have hb : b.addr ≠ some a := fun z => hy (F.disj y x b _ a ey e z rfl)
      exact ⟨fun hl => let ⟨v, e1, e2⟩ := q1 hl; ⟨v, e1, mv _ _ hb e2⟩, fun hl => let ⟨c, v, e1, e2, e3⟩ := q2 hl; ⟨c, v, e1, cl c _ (F.cells y c e1).1 e2, mv _ _ hb e3⟩, v, mv _ _ hb q3⟩
  · cases e3; exact hy (F.disj y x by' _ a e1 e e2 rfl)
  · rcases List.mem_cons.mp hb with rfl | hb
    · exact hH.symm
    · exact .inl (F.tT b hb)
/-- an owned record given up -/
theorem FS.kpLose {C : Cfg} {T : List Addr} {env : Env} {he h h' : Heap} {Oc O : List Addr} {m : Mp} {fz : Bool} {x : Str} {a : Addr} {P : Obj → Prop} (F : FS C T env he Oc O h fz m) (k : Kp C (a :: C.T) h h') (e : m.lookup x = some (.ob a P)) : FS C T env he Oc O h' fz ((x, .v (.ref a)) :: m) := by
  obtain ⟨mm, hn, hm⟩ := F.bear
  obtain ⟨_, _, v, hv, hO, hT, hH, o0, ho, _, hf0⟩ := hm x _ e
  have nd : ∀ es ep, o0.data ≠ .dict es ep := fun es ep z => by obtain ⟨vs, hd, _⟩ := hf0; rw [hd] at z; cases z
  have nc : ∀ v, o0.data ≠ .cell v := fun v z => by obtain ⟨vs, hd, _⟩ := hf0; rw [hd] at z; cases z
  have hTO : ∀ b ∈ a :: C.T, b ∈ O := fun b hb => (List.mem_cons.mp hb).elim (fun z => z ▸ hO) (F.tabs b)
  have mv : ∀ v b, b.addr ≠ some a → Bears C T he O h v b → Bears C T he O h' v b := fun v b hb z => z.moved (fun _ q => q)
    (fun c o e hc ⟨xs, n, hd⟩ => ⟨k.seq (fun q => hc (hTO c q)) e (fun es ep q => by rw [hd] at q; cases q), hc⟩)
    fun c o hc e hcT hf => k.seq (fun q => (List.mem_cons.mp q).elim (fun z => hb (z ▸ hc)) hcT) e fun es ep q => by rcases hf with ⟨vs, hd, _⟩ | ⟨xs, n, hd⟩ <;> rw [hd] at q <;> cases q
  have own : Bears C T he O h' (.ref a) (.v (.ref a)) := rfl
  obtain ⟨oL, es, ep, eL, dL, _⟩ := id hn
  have hLa : env.locals ≠ a := fun z => by rw [z, ho] at eL; cases eL; exact nd _ _ dL
  have cl : ∀ c v, c ∉ T → h.IsCell c v → h'.IsCell c v := fun c v hc z => k.cell (fun q => (List.mem_cons.mp q).elim (fun z' => by
    obtain ⟨o, e, d⟩ := z; rw [z', ho] at e; cases e; exact nc _ d) fun q => hc (F.tT _ q)) z
  refine ⟨F.kind, F.glob, F.blt, F.tabs, F.tT, F.tO, F.sup, fun b hb => ⟨(F.av b hb).1, let ⟨o, e⟩ := (F.av b hb).2; k.live b o e⟩, F.loc, fun y c ec => let ⟨a1, ⟨v, a2⟩, a3⟩ := F.cells y c ec; ⟨a1, ⟨v, cl c v a1 a2⟩, a3⟩, F.apart,
    ⟨mm, k.ns (fun q => (List.mem_cons.mp q).elim hLa fun q => F.locT (F.tT _ q)) hn, fun y b ey => ?_⟩, disj_cons F.disj (.none rfl), F.ext.trans k fun b hb => ?_⟩
  · by_cases hy : y = x
    · subst hy; rw [lk_self] at ey; cases ey
      obtain ⟨q1, q2, _⟩ := hm y _ e
      exact ⟨fun hl => let ⟨v, e1, e2⟩ := q1 hl; ⟨v, e1, e2.1 ▸ own⟩, fun hl => let ⟨c, v, e1, e2, e3⟩ := q2 hl; ⟨c, v, e1, cl c _ (F.cells y c e1).1 e2, e3.1 ▸ own⟩, _, own⟩
    · rw [lk_ne hy] at ey
      obtain ⟨q1, q2, v, q3⟩ := hm y b ey
      have hb : b.addr ≠ some a := fun z => hy (F.disj y x b _ a ey e z rfl)
      exact ⟨fun hl => let ⟨v, e1, e2⟩ := q1 hl; ⟨v, e1, mv _ _ hb e2⟩, fun hl => let ⟨c, v, e1, e2, e3⟩ := q2 hl; ⟨c, v, e1, cl c _ (F.cells y c e1).1 e2, mv _ _ hb e3⟩, v, mv _ _ hb q3⟩
  · rcases List.mem_cons.mp hb with rfl | hb
    · exact hH.symm
    · exact .inl (F.tT b hb)
/-- statements run in a frame that stands on the stack -/
noncomputable def DoSF (C : Cfg) (T : List Addr) (k : Nat) (env : Env) (fz : Bool) (st : Stmt) (m : Mp) (Q : Fl → Mp → Prop) : Prop :=
  ∀ (A : Around) (he : Heap) (Oc O : List Addr) (s : Shared) (Qh : Flow → Shared → Prop) (E : Value → Shared → Prop), GI C s.heap → FS C T env he Oc O s.heap fz m → Room C k A s.heap → (∃ outer, A.frames = some (env :: outer)) → PostF C T env fz he Oc s Q Qh → wpAny C.M A (exec st env) Qh E s
noncomputable def DoF (C : Cfg) (T : List Addr) (k : Nat) (env : Env) (fz : Bool) (ss : List Stmt) (m : Mp) (Q : Fl → Mp → Prop) : Prop :=
  ∀ (A : Around) (he : Heap) (Oc O : List Addr) (s : Shared) (Qh : Flow → Shared → Prop) (E : Value → Shared → Prop), GI C s.heap → FS C T env he Oc O s.heap fz m → Room C k A s.heap → (∃ outer, A.frames = some (env :: outer)) → PostF C T env fz he Oc s Q Qh → wpAny C.M A (execs ss env) Qh E s
theorem DoSF.of {C : Cfg} {T : List Addr} {k : Nat} {env : Env} {fz : Bool} {m : Mp} {Q : Fl → Mp → Prop} {st : Stmt} (h : DoS C T k env fz st m Q) : DoSF C T k env fz st m Q := fun A he Oc O s Qh E g F R _ p => h A he Oc O s Qh E g F R p
theorem DoF.of {C : Cfg} {T : List Addr} {k : Nat} {env : Env} {fz : Bool} {m : Mp} {Q : Fl → Mp → Prop} {ss : List Stmt} (h : Do C T k env fz ss m Q) : DoF C T k env fz ss m Q := fun A he Oc O s Qh E g F R _ p => h A he Oc O s Qh E g F R p
theorem DoF.sub {C : Cfg} {T : List Addr} {k : Nat} {env : Env} {fz : Bool} {m m' : Mp} {Q : Fl → Mp → Prop} {ss : List Stmt} (h : DoF C T k env fz ss m Q) (hs : Sub m' m) : DoF C T k env fz ss m' Q := fun A he Oc O s Qh E g F R hf p => h A he Oc O s Qh E g (F.sub hs) R hf p
theorem DoSF.sub {C : Cfg} {T : List Addr} {k : Nat} {env : Env} {fz : Bool} {m m' : Mp} {Q : Fl → Mp → Prop} {ss : Stmt} (h : DoSF C T k env fz ss m Q) (hs : Sub m' m) : DoSF C T k env fz ss m' Q := fun A he Oc O s Qh E g F R hf p => h A he Oc O s Qh E g (F.sub hs) R hf p
theorem DoF.cons {C : Cfg} {T : List Addr} {k : Nat} {env : Env} {fz : Bool} {m : Mp} {Q : Fl → Mp → Prop} {st : Stmt} {rest : List Stmt} (h : DoSF C T k env fz st m fun f m' => match f with | .next => DoF C T k env fz rest m' Q | f => Q f m') : DoF C T k env fz (st :: rest) m Q := by
  intro A he Oc O s Qh E g F R hf p
  refine wpAny_execs_cons (h A he Oc O s _ E g F R hf fun f fd m' O' h' tk q g' kd F' b => ?_)
  cases f <;> cases fd <;> first | exact b.elim | exact q A he Oc O' _ Qh E g' F' (R.kd kd) hf (p.later kd) | exact p _ _ m' O' h' tk q g' kd F' b
section
variable {C : Cfg} {k : Nat} {env : Env} {fz : Bool} {m m' : Mp} {Q : Fl → Mp → Prop}
theorem DoS.tryParse {x y z : Str} {p1 p2 p3 p4 p5 p6 p7 p8 p9 p10 p11 p12 : Pos} {a I : Addr} {ds : List PyData} {b : Array UInt8} {t : Tok} {i : Nat} (W : Wd C) (hsz : b.size ≤ 1000) (hds : ds.length ≤ sizeLine) (hx : m.lookup x = some (.L a ds)) (hxl : env.kindOf x = some .local) (hy : m.lookup y = some (.ob I (itP b t i))) (hyl : Loc env y) (hxy : x ≠ y) (hz : dParse.name = z) (hzk : env.kindOf z = some .globalImplicit) (hsk : env.kindOf "StopIteration" = some .globalImplicit)
    (hfr : env.frame = some env.locals)
    (qok : ∀ v j, pv (b.toList.drop i) i = some (v, j) → Q .next ((x, .L a (ds ++ [.int v])) :: (y, .ob I (itP b t j)) :: m))
    (qend : ∀ m', pv (b.toList.drop i) i = none → Q (.ret (.list ds)) m')
    (hbase : attributeBase (.Name x p1) "append" env (eval (.Name x p1) env) = eval (.Name x p1) env) (hline : (p2.endLine == p6.line) = true) (hi : interactive env = false)
    (hs : swapsWith (.Call (.Attribute (.Name x p1) "append" p2) [.Call (.Name z p3) [.Name y p4] [] p5] [] p6) none p7.line env = pure false) (hst : starEach [.Call (.Name z p3) [.Name y p4] [] p5] env = [(false, eval (.Call (.Name z p3) [.Name y p4] [] p5) env)])
    (hd : (x == ("__debug__" : Str)) = false) (hc : (x == ("__classdict__" : Str)) = false) (hdy : (y == ("__debug__" : Str)) = false) (hcy : (y == ("__classdict__" : Str)) = false) (hdz : (z == ("__debug__" : Str)) = false) :
    DoSF C C.T (k + 1) env fz (.Try [.Expr (.Call (.Attribute (.Name x p1) "append" p2) [.Call (.Name z p3) [.Name y p4] [] p5] [] p6) p7] [.ExceptHandler (some (.Name "StopIteration" p8)) none [.Return (some (.Name x p9)) p10] p11] [] [] p12) m Q := by
  intro A he Oc O s Qh E g F R hfr' p
  obtain ⟨_, hIO, hIT, hIH, oI, hoI, hpI, _⟩ := F.getA hy rfl
  refine wpAny_Try_except ?_
  refine wpAny_execs_cons (wpAny_Expr ?_ hi hs)
  have hns : NoStar [Expr.Call (.Name z p3) [.Name y p4] [] p5] := NoStar.cons NoStar.nil
  refine wpAny_Call_method hbase (few_of hns (by simp)) hline meth_append.pa meth_append.slot meth_append.ty (EvB.name hx (.inl hxl) hd hc A _ he Oc O s _ _ _ g F R fun v tk r => ?_)
  obtain ⟨rfl, h1, h2, h3, vs, n, h4, h5⟩ := r
  refine ⟨⟨_, h4, rfl⟩, fun b e => by cases e; exact ⟨_, h4, rfl⟩, callWith_meth (hns _ _) (wpAny_items_cons (wpAny_Call_Name_kw (EvB.glob W.st hzk (.inl (hz ▸ W.hParse.mg)) hdz A _ he Oc O _ _ _ _ g F R fun v tk r => ?_)) hst)⟩
  cases r
  obtain ⟨outer, hfe⟩ := hfr'
  refine callWith_fn W.hParse.isFn ((NoStar.cons NoStar.nil : NoStar [Expr.Name y p4]) _ _) (wpAny_items_cons (EvB.name hy hyl hdy hcy A _ he Oc O _ _ _ _ g F R fun v tk r => wpAny_items_nil ⟨g, ?_⟩))
  obtain ⟨rfl, _⟩ := r
  refine parse_spec W hsz g F.avs hIO hIT ⟨oI, hoI, hpI⟩ R hfe (fun v j h₁ tk tv e1 k₁ g₁ hit => wpAny_items_nil ?_) fun e h₁ tk e1 fl => ?_
  · obtain ⟨o', ho', hp'⟩ := hit
    have F1 := F.kpOb k₁ hy (P' := itP b t j) ⟨o', ho', hp', hp'.fld⟩
    have hx1 : ((y, Bd.ob I (itP b t j)) :: m).lookup x = some (.L a ds) := by rw [lk_ne hxy]; exact hx
    obtain ⟨vs', hpl, hr'⟩ := F1.isList hx1
    refine wpAny_list_append_plain (x := Value.int v tv) hpl (fun h₂ hpl₂ hs₂ => ?_) (by simp [hr'.length]; exact hds)
    have hpl' : h₂.PlainList a (vs' ++ [Value.int v tv]).toArray := by simpa using hpl₂
    exact wpAny_execs_nil (wpAny_execs_nil (p .next .next _ O h₂ _ (qok v j e1) (F1.giObj g₁ hs₂.extBut hx1 rfl) (Kd.trans k₁.dict (F1.kdObj hs₂.extBut hx1 rfl)) (F1.setL hx1 hs₂ hpl' (Reps.append (.cons (.int v tv) .nil) hr')) trivial))
  · obtain ⟨ho, hx', a0, k0, g0, keeps, ups, fly⟩ := fl
    refine wpAny_looks_onW hfe hfr fly fun h₂ held ups₂ => ?_
    refine wpAny_landsW held fun h₃ fly₃ ups₃ => ?_
    obtain ⟨oe, hoe, hcl⟩ := fly₃.there
    refine wpAny_handleBy_builtin (X := "StopIteration") (T := "StopIteration") (b := true) (isSubtype_of_subB (by decide +kernel)) (isSubtype_of_subB (by decide +kernel)) (isSubtype_of_subB (by decide +kernel)) ?_
    have st := Kp.stays (C := C) (O := I :: C.T) keeps fly₃.1 (ups.trans (ups₂.trans ups₃))
    have g3 : GI C h₃ := g0.left (Kp.stays keeps fly₃.1 (ups.trans (ups₂.trans ups₃)))
    obtain ⟨n1, n2, _⟩ := W.st.ns _ g3
    have hcls : Shared.TypeIs { s with heap := h₃, toks := tk } (.ref e) "StopIteration" := ⟨oe, hoe, hcl⟩
    refine (fun (z : ∀ Q E, Q (.type "StopIteration") { s with heap := h₃, toks := tk } → wpAny C.M (A.mark (some (.ref e))) (loadGlobal env "StopIteration") Q E { s with heap := h₃, toks := tk }) => Name_function_global F.kind hsk (z _ _ ⟨rfl, hcls, ?_⟩)) fun Q E q => ?_
    · rcases W.stop with hg | ⟨h1, h2⟩
      · exact loadGlobal_global (F.glob ▸ n1) hg q
      · exact loadGlobal_builtin (F.glob ▸ n1) h1 (F.blt ▸ n2) h2 q
    · rw [if_pos rfl]
      refine lands_againW fly₃ fun h₄ fly₄ ups₄ => ?_
      have st4 := k0.trans' (Kp.stays (C := C) (O := I :: C.T) keeps fly₄.1 (ups.trans (ups₂.trans (ups₃.trans ups₄))))
      have g4 : GI C h₄ := g0.left (Kp.stays keeps fly₄.1 (ups.trans (ups₂.trans (ups₃.trans ups₄))))
      have F4 := F.kpLose st4 hy
      have hx4 : ((y, Bd.v (.ref I)) :: m).lookup x = some (.L a ds) := by rw [lk_ne hxy]; exact hx
      obtain ⟨vx, _, _, haT, _⟩ := F4.get hx4
      obtain ⟨O5, F5⟩ := F4.freeze hx4 haT
      obtain ⟨mm, n, hm⟩ := F5.bear
      obtain ⟨v, ev, rv⟩ := (hm x _ lk_self).1 hxl
      refine wpAny_execs_cons (wpAny_Return_some (wpAny_Name (wpAny_loadName_local F.kind hxl n ev ?_) hd))
      exact p (.ret v) (.ret (.list ds)) _ O5 h₄ tk (qend _ e1) g4 st4.dict F5 rv
end

section
variable {C : Cfg} {T : List Addr} {k : Nat} {env : Env} {fz : Bool} {m m' : Mp} {Q : Fl → Mp → Prop}
/-- tape = iter(bytes(octets)) -/
theorem DoS.tape {x : Str} {p' p1 p2 pos1 pos2 pos : Pos} {e : Expr} {ns : List Int} (W : Wd C) (hk1 : env.kindOf "iter" = some .globalImplicit) (hk2 : env.kindOf "bytes" = some .globalImplicit) (hv : Ev C k env m e (.list (ns.map .int))) (hr : ∀ n ∈ ns, 0 ≤ n ∧ n < 256) (hz : ns.length ≤ sizeLine) (hx : CanBind env fz x)
    (hns : NoStar [e]) (hst : starEach [e] env = [(false, eval e env)]) (q : ∀ I t, Q .next ((x, .ob I (itP (byteArr ns) t 0)) :: m))
    (hs : swapsWith (.Call (.Name "iter" p1) [.Call (.Name "bytes" p2) [e] [] pos2] [] pos1) (some (.Name x p')) pos.line env = pure false) :
    DoS C T k env fz (.Assign [.Name x p'] (.Call (.Name "iter" p1) [.Call (.Name "bytes" p2) [e] [] pos2] [] pos1) pos) m Q := by
  intro A he Oc O s Qh E g F R p
  refine wpAny_Assign_Name ?_ hs
  refine wpAny_Call_Name_kw (EvB.glob W.st hk1 W.iter (by decide) A T he Oc O s fz _ _ g F R fun v tk r => ?_)
  cases r
  refine callWith_fn (.bi "iter") ((NoStar.cons NoStar.nil : NoStar [Expr.Call (.Name "bytes" p2) [e] [] pos2]) _ _) (wpAny_items_cons (wpAny_Call_Name_kw (EvB.glob W.st hk2 W.bytes (by decide) A T he Oc O _ fz _ _ g F R fun v tk₀ r => ?_)))
  cases r
  refine callWith_fn (.ty "bytes") (hns _ _) (Evs.cons hv Evs.nil hst A T he Oc O _ fz _ _ _ g F R fun vs h₁ tk₁ k₁ g₁ r₁ => ⟨g₁, ?_⟩)
  refine r₁.one_ fun v r1 => ?_
  · obtain ⟨l, us, rfl, hlO, ⟨n, ho⟩, hl, hr'⟩ := Rep.isList r1
    refine call_bytes_ints hl hr'.ints hr (by rw [hr'.length, List.length_map]; exact hz) R.handled fun h₂ t tk₂ keep => wpAny_items_nil ⟨g₁.keepAll keep, ?_⟩
    have k₂ : Kp C C.T s.heap h₂ := k₁.trans' (Kp.of_keeps keep)
    have g₂ : GI C h₂ := g₁.keepAll keep
    refine call_function_entry (by decide +kernel) (by decide +kernel) kdk_entry_iter (kdk_args_iter _) ?_
    unfold Builtin.«iter»
    refine wpAny_bind (m := someArgs "iter" 1 2 _) (wpAny_of_eq (a := [Value.bytes (byteArr ns) t]) (by first | rfl | kernel_rfl!) ?_)
    show wpAny _ _ (pyIter (.bytes (byteArr ns) t) >>= _) _ _ _
    refine wpAny_bind (KBw.pyIter_bytes (wpAny_pure ⟨_, rfl, ?_⟩))
    have F2 := F.kp k₂
    have kp := Kp.push C C.T h₂ { cls := .type "bytes_iterator", data := .fields #[.bytes (byteArr ns) t, .int 0 0] }
    have hsz := Heap.get?_push_size h₂ (o := { cls := .type "bytes_iterator", data := .fields #[.bytes (byteArr ns) t, .int 0 0] }) rfl
    have F3 := F2.alloc g₂ (size_none _) kp hsz
    have hp : itP (byteArr ns) t 0 { cls := .type "bytes_iterator", data := .fields #[.bytes (byteArr ns) t, .int 0 0] } := ⟨rfl, rfl⟩
    refine F3.bind (s := { s with heap := _, toks := tk₂ }) (g₂.push _) hx.1 hx.2 (b := .ob h₂.objs.size (itP (byteArr ns) t 0)) ⟨rfl, .head _, g₂.freshT (size_none _), .inl (F2.fresh_he (size_none _)), _, hsz, hp, hp.fld⟩ (F2.apartNew (size_none _) rfl) fun h' tk' kp' g' F' => ?_
    exact p .next .next _ _ h' tk' (q _ t) g' (Kd.trans k₂.dict (Kd.trans kp.dict kp'.dict)) F' trivial
theorem DoSF.for {x : Str} {p' : Pos} {iter : Expr} {body : List Stmt} {pos : Pos} {xs : List PyData} (inv : Nat → Mp) (u v : Str) (huv : u ≠ v) (hu : Pseudo env u) (hv : Pseudo env v)
    (hx : CanBind env fz x) (hit : EvI C k env m iter xs) (h0 : Sub m (inv 0)) (hin : ∀ i, (inv i).lookup u = none ∧ (inv i).lookup v = none) (hmu : m.lookup u = none ∧ m.lookup v = none)
    (turn : ∀ i d, xs[i]? = some d → ∀ bu bv : Bd, DoF C T k env fz body ((x, .d d) :: (u, bu) :: (v, bv) :: inv i) fun f m' => match f with
      | .next => Sub m' ((u, bu) :: (v, bv) :: inv (i + 1)) | .cont => Sub m' ((u, bu) :: (v, bv) :: inv (i + 1)) | .brk => Q .next m' | .ret d => Q (.ret d) m')
    (fin : Q .next (inv xs.length)) (hfs : ∀ x, foldedSetIterable iter env x = pure x := by intro _; rfl) : DoSF C T k env fz (.For (.Name x p') iter body [] pos) m Q := by
  intro A he Oc O s Qh E g F R hfrm p
  refine wpAny_For (hit A T he Oc O s fz _ _ g F R fun I b bS h₂ tk₂ hI it kp g₂ F₂ bears => ?_) hfs
  have hIT : I ∉ T := fun z => by
    obtain ⟨o, e⟩ := (F.sup _ (F.tO _ z)).2
    obtain ⟨o', e'⟩ := F.ext.live _ _ e
    rw [hI] at e'; cases e'
  obtain ⟨b1, w, b2⟩ := bears T he (F.fresh_he hI)
  have hbS := it.addrS
  have F3 := F₂.put (v := w) hv b2 (.none hbS)
  have F4 := F3.put (v := .ref I) hu b1 (fun y by' a hy e1 e2 e3 => by
    rw [it.addr 0] at e3; cases e3
    by_cases h5 : y = v
    · subst h5; rw [lk_self] at e1; cases e1; rw [hbS] at e2; cases e2
    · rw [lk_ne h5] at e1
      exact F.apartNew (x := u) (b := b 0) hI (it.addr 0) y by' I hy e1 e2 (it.addr 0))
  refine codeAny_forLoop (fun n s' => ∃ i h' tk O' m', s' = { s with heap := h', toks := tk } ∧ i ≤ xs.length ∧ n = xs.length + 1 - i ∧ GI C h' ∧ Kd s.heap h' ∧ FS C T env he Oc O' h' fz m' ∧
      Sub m' ((u, b i) :: (v, bS) :: inv i)) ?_ (xs.length + 1) ⟨0, h₂, tk₂, _, _, rfl, Nat.zero_le _, rfl, g₂, kp.dict, F4, fun y c hy => ?_⟩
  · rintro n _ ⟨i, h', tk', O', m', rfl, hi, rfl, g', kd', F', hsub⟩
    have e1 : m'.lookup u = some (b i) := hsub _ _ lk_self
    have e2 : m'.lookup v = some bS := hsub _ _ (by rw [lk_ne (Ne.symm huv)]; exact lk_self)
    rcases Nat.lt_or_eq_of_le hi with hlt | rfl
    · obtain ⟨d, hd⟩ : ∃ d, xs[i]? = some d := ⟨_, List.getElem?_eq_getElem hlt⟩
      refine it.item A T he O' _ i d _ _ hd R.handled (F'.getA e1 (it.addr i)) (F'.get e2) fun w h₁ tk₁ hs₁ rv bI' => ?_
      have F₁ := F'.setObj hs₁ e1 (it.addr i) (fun _ => bI') (it.addr (i + 1))
      have g₁ := F'.giObj g' hs₁ e1 (it.addr i)
      have kd₁ := kd'.trans (F'.kdObj hs₁ e1 (it.addr i))
      have F₁' : FS C T env he Oc O' h₁ fz ((u, b (i + 1)) :: (v, bS) :: inv i) := F₁.sub fun y c hy => by
        by_cases h5 : y = u
        · subst h5; rw [lk_self] at hy ⊢; exact hy
        · rw [lk_ne h5] at hy ⊢
          exact hsub y c (by rw [lk_ne h5]; exact hy)
      refine Asg.name hx A T he Oc O' _ w _ _ g₁ F₁' (R.kd kd₁) rv fun h₃ tk₃ kd₃ g₃ F₃ => ?_
      have kd3 := kd₁.trans kd₃
      refine turn i d hd _ _ A he Oc O' _ _ _ g₃ F₃ (R.kd kd3) hfrm fun f fd m₂ O₂ h₄ tk₄ q g₄ kd₄ F₄ fb => ?_
      have kd4 := kd3.trans kd₄
      cases f <;> cases fd <;> first
        | exact fb.elim
        | exact ⟨xs.length + 1 - (i + 1), by omega, i + 1, h₄, tk₄, O₂, m₂, rfl, hlt, rfl, g₄, kd4, F₄, q⟩
        | exact p _ _ m₂ O₂ h₄ tk₄ q g₄ kd4 F₄ fb
        | exact p .next .next m₂ O₂ h₄ tk₄ q g₄ kd4 F₄ trivial
    · refine it.done A T he O' _ _ _ R.handled (F'.getA e1 (it.addr _)) (F'.get e2) fun h₁ tk₁ hs₁ => ?_
      have g₁ := F'.giObj g' hs₁ e1 (it.addr _)
      have kd₁ := kd'.trans (F'.kdObj hs₁ e1 (it.addr _))
      obtain ⟨O₁, _, F₁⟩ := F'.drop hs₁ e1 (it.addr _) hIT hu
      refine wpAny_execs_nil (p .next .next _ O₁ h₁ tk₁ fin g₁ kd₁ (F₁.sub fun y c hy => ?_) trivial)
      have n1 : y ≠ u := fun z => by rw [z, (hin _).1] at hy; cases hy
      have n2 : y ≠ v := fun z => by rw [z, (hin _).2] at hy; cases hy
      rw [lk_ne n1]
      exact hsub y c (by rw [lk_ne n1, lk_ne n2]; exact hy)
  · by_cases h5 : y = u
    · subst h5; rw [lk_self] at hy ⊢; exact hy
    · rw [lk_ne h5] at hy ⊢
      by_cases h6 : y = v
      · subst h6; rw [lk_self] at hy ⊢; exact hy
      · rw [lk_ne h6] at hy ⊢; exact h0 y c hy
theorem Opn.ofDefF {d : DefRec} {a : Addr} {k : Nat} {ds : List PyData} {r : PyData} (names : List Str) (m : Mp) (st : Sta C) (hd : HasDef C d a)
    (hbind : ∀ pm code doc vals, vals.length = names.length → bindArgs (d.data pm code doc) ⟨vals, []⟩ = pure (names.zip vals))
    (hkind : ∀ n ∈ names, d.scope.names.lookup n = some .local ∨ (d.scope.names.lookup n = some .cell ∧ ∀ L, ((cellsFrom (L + 1) d.scope.names []).lookup n).isSome = true))
    (hm : m = (names.zip (ds.map Bd.d)).reverse) (hlen : names.length = ds.length)
    (body : ∀ L pm code doc, DoF C C.T k (callEnvC (d.data pm code doc) L a) false d.body m fun f _ => f = .ret r ∨ (f = .next ∧ r = .none))
    (hco : d.scope.isCoroutine = false := by rfl) (hgen : d.scope.isGenerator = false := by rfl) (hk : d.scope.kind = .function := by rfl) : Opn C (k + 1) (fun vs => PySem.call (.ref a) vs) ds r := by
  intro A O s vs Q E g av R rs p
  obtain ⟨o, pm, code, doc, e, hdat, hcr⟩ := hd.fn
  have hl := rs.length
  refine wpAny_call (codeAny_call_cells (body := d.body) (binds := names.zip vs) (by have := R.depth; omega) (g.base _ _ e) hdat (st.ns _ g).2.2 (hcr _ g) rfl (hbind pm code doc vs (by rw [hl, hlen])) rfl ?_ (fun s₁ x => ?_) hco hgen hk)
  · intro y hy
    have hn := (List.of_mem_zip hy).1
    exact (hkind y.1 hn).imp id fun q => ⟨q.1, q.2 _⟩
  · obtain ⟨O', F, g1, kd⟩ := FS.enter (m := m) g av (fd := d.data pm code doc) (a := a) hk rfl rfl (fun y hy => (hkind y.1 (List.of_mem_zip hy).1).imp id fun q => ⟨q.1, q.2 _⟩) x (by
      rw [hm]
      exact (Zip.mk names hlen rs fun v d r => ⟨rfl, r⟩).rev)
    obtain ⟨h', tk, es⟩ := x.toInCall.same
    subst es
    obtain ⟨oL, esL, epL, eL, dL, _⟩ := id x.toInCall.ns
    have R' : Room C k (A.deeper (callEnvC (d.data pm code doc) s.heap.objs.size a)) h' := R.deeper kd hk (L := s.heap.objs.size) rfl (g.fresh (size_none _)) ⟨oL, esL, epL, eL, dL⟩
    obtain ⟨outer, hfe, _⟩ := R.frames
    refine body _ pm code doc _ s.heap O O' _ _ _ g1 F R' ⟨outer, by show A.frames.map _ = _; rw [hfe]; rfl⟩ fun f fd m' O₂ h₂ tk₂ q g₂ kd₂ F₂ fb => ?_
    rcases q with rfl | ⟨rfl, rfl⟩
    · cases f <;> first | exact fb.elim | skip
      exact p _ h₂ tk₂ F₂.ext g₂ (fb.sub fun c hc => .inl (F₂.sup c hc).1)
    · cases f <;> first | exact fb.elim | skip
      exact p _ h₂ tk₂ F₂.ext g₂ .nn
end

noncomputable def runN (b : Array UInt8) : Nat → Option (Nat × List Int)
  | 0 => some (0, [])
  | n + 1 => match runN b n with
    | some (p, a) => (match pv (b.toList.drop p) p with | some (v, j) => some (j, a ++ [v]) | none => none)
    | none => none
theorem pvLoop_pos {v : Int} {j : Nat} : ∀ {l : List UInt8} {i : Nat} {val bb : Int}, pvLoop l i val bb = some (v, j) → i ≤ j ∧ j ≤ i + l.length
  | [], i, val, bb, h => by
    rw [pvLoop] at h
    split at h
    · cases h
    · cases h; exact ⟨Nat.le_refl _, Nat.le_add_right ..⟩
  | c :: r, i, val, bb, h => by
    rw [pvLoop] at h
    split at h
    · have := pvLoop_pos h; rw [List.length_cons]; omega
    · cases h; exact ⟨Nat.le_refl _, Nat.le_add_right ..⟩
theorem pv_pos {l : List UInt8} {i : Nat} {v : Int} {j : Nat} (h : pv l i = some (v, j)) : i < j ∧ j ≤ i + l.length := by
  cases l with
  | nil => cases h
  | cons c r => have := pvLoop_pos h; rw [List.length_cons]; omega
theorem runN_pos {b : Array UInt8} : ∀ {n p : Nat} {a : List Int}, runN b n = some (p, a) → n ≤ p ∧ p ≤ b.size ∧ a.length = n
  | 0, p, a, h => by cases h; exact ⟨Nat.le_refl _, Nat.zero_le _, rfl⟩
  | n + 1, p, a, h => by
    rw [runN] at h
    cases e : runN b n with
    | none => rw [e] at h; cases h
    | some q =>
      obtain ⟨p', a'⟩ := q
      rw [e] at h; dsimp only at h
      cases e2 : pv (b.toList.drop p') p' with
      | none => rw [e2] at h; cases h
      | some r =>
        obtain ⟨v, j⟩ := r
        rw [e2] at h; cases h
        have h1 := runN_pos e
        have h2 := pv_pos e2
        rw [List.length_drop, Array.length_toList] at h2
        rw [List.length_append, List.length_singleton]
        omega
theorem runN_none {b : Array UInt8} {n : Nat} (h : runN b n = none) : ∀ k, runN b (n + k) = none
  | 0 => h
  | k + 1 => by show runN b (n + k + 1) = none; rw [runN, runN_none h k]
/-- the numbers that the octets tell -/
noncomputable def NumsIs (b : Array UInt8) (r : List Int) : Prop := ∃ n p, runN b n = some (p, r) ∧ pv (b.toList.drop p) p = none
theorem NumsIs.at {b : Array UInt8} {r : List Int} (h : NumsIs b r) {i p : Nat} {a : List Int} (e : runN b i = some (p, a)) (e2 : pv (b.toList.drop p) p = none) : a = r := by
  obtain ⟨n, p', h1, h2⟩ := h
  have n1 : runN b (n + 1) = none := by rw [runN, h1]; dsimp only; rw [h2]
  have n2 : runN b (i + 1) = none := by rw [runN, e]; dsimp only; rw [e2]
  rcases Nat.lt_trichotomy i n with h | h | h
  · have := runN_none n2 (n - (i + 1)); rw [show i + 1 + (n - (i + 1)) = n by omega, h1] at this; cases this
  · subst h; rw [h1] at e; cases e; rfl
  · have := runN_none n1 (i - (n + 1)); rw [show n + 1 + (i - (n + 1)) = i by omega, e] at this; cases this
theorem num_spec {C : Cfg} (W : Wd C) {os r : List Int} (hl : os.length ≤ 1000) (hr : ∀ n ∈ os, 0 ≤ n ∧ n < 256) (hn : NumsIs (byteArr os) r) :
    Opn C 2 (fun vs => PySem.call (.ref W.aNum) vs) [.list (os.map .int)] (.list (r.map .int)) := by
  refine Opn.ofDefF ["octets"] [("octets", .d (.list (os.map .int)))] W.st W.hNum
    (fun pm code doc vals h => len1_ h fun _ => rfl) (fun n hn => .inl ?_) rfl rfl (fun L pm code doc => ?_)
  · simp only [List.mem_cons, List.not_mem_nil, or_false] at hn
    rcases hn with rfl; rfl
  have hsz : (os.map PyData.int).length ≤ sizeLine := by rw [List.length_map, sizeLine_eq]; omega
  have hbs : (byteArr os).size = os.length := byteArr_size os
  refine DoF.cons (DoSF.of (DoS.tape W rfl rfl ?_ hr (by rw [sizeLine_eq]; omega) ⟨.inl rfl, nofun⟩ (NoStar.cons NoStar.nil) rfl (fun I t => ?_) rfl))
  · walk_at "ev"
  dsimp only
  refine DoF.cons (DoSF.of (DoS.assignL ⟨.inl rfl, nofun⟩ (ds := []) ?_ (fun a => ?_)))
  · exact EvL.list Evs.nil
  dsimp only
  obtain ⟨nb, hnb⟩ : ∃ nb : Nat → Bd, nb = fun i => match runN (byteArr os) i with | some (p, acc) => .L a (acc.map .int) | none => .ob 0 fun _ => False := ⟨_, rfl⟩
  obtain ⟨tb, htb⟩ : ∃ tb : Nat → Bd, tb = fun i => match runN (byteArr os) i with | some (p, acc) => .ob I (itP (byteArr os) t p) | none => .v .none := ⟨_, rfl⟩
  have nbs : ∀ i p acc, runN (byteArr os) i = some (p, acc) → nb i = .L a (acc.map .int) ∧ tb i = .ob I (itP (byteArr os) t p) := fun i p acc e => by rw [hnb, htb]; dsimp only; rw [e]; exact ⟨rfl, rfl⟩
  have nbn : ∀ i, runN (byteArr os) i = none → nb i = .ob 0 fun _ => False := fun i e => by rw [hnb]; dsimp only; rw [e]
  refine DoF.cons (DoSF.for (xs := rng ((os.length : Int) + 1).toNat) (fun i => [("numbers", nb i), ("tape", tb i), ("octets", .d (.list (os.map .int)))]) "[u" "[v" (by decide) (by refine ⟨?_, ?_, ?_⟩ <;> (intro h; cases h)) (by refine ⟨?_, ?_, ?_⟩ <;> (intro h; cases h))
    ⟨.inl rfl, nofun⟩ ?_ (SubL.sub ?_) (fun i => ⟨rfl, rfl⟩) ⟨rfl, rfl⟩ (fun i d hi bu bv => ?_) ?_)
  · refine EvI.range' W rfl ?_ rfl ?_ (by omega) (by omega)
    · walk_at "ev"
    · refine Ev.cast (d' := .int (((os.map PyData.int).length : Int) + 1)) ?_ (by rw [List.length_map])
      walk_at "ev"
      exact hsz
  · rw [(nbs 0 _ _ rfl).1, (nbs 0 _ _ rfl).2]; (repeat (first | exact trivial | refine ⟨rfl, ?_⟩))
  · cases e : runN (byteArr os) i with
    | none => rw [nbn i e]; exact DoF.of (Do.absurd (x := "numbers") (a := 0) rfl)
    | some q =>
      obtain ⟨p, acc⟩ := q
      rw [(nbs i p acc e).1, (nbs i p acc e).2]
      have hp := runN_pos e
      refine DoF.cons (DoS.tryParse (k := 0) (i := p) (t := t) (b := byteArr os) (I := I) (a := a) (ds := acc.map .int) W (by omega) (by rw [List.length_map, sizeLine_eq]; omega) rfl rfl rfl (.inl rfl) (by decide) rfl rfl rfl rfl (fun v j e1 => ?_) (fun m' e1 => ?_) rfl rfl rfl rfl rfl rfl rfl rfl rfl rfl)
      · dsimp only
        refine DoF.of (Do.nil ?_)
        dsimp only
        have e2 : runN (byteArr os) (i + 1) = some (j, acc ++ [v]) := by rw [runN, e]; dsimp only; rw [e1]
        rw [(nbs (i + 1) _ _ e2).1, (nbs (i + 1) _ _ e2).2, List.map_append]
        exact SubL.sub (by repeat (first | exact trivial | refine ⟨rfl, ?_⟩))
      · dsimp only
        exact .inl (by rw [hn.at e e1])
  · dsimp only
    have e1 : (rng ((os.length : Int) + 1).toNat).length = os.length + 1 := by
      unfold rng; rw [List.length_map, List.length_range]; omega
    rw [e1]
    cases e : runN (byteArr os) (os.length + 1) with
    | none => rw [nbn _ e]; exact DoF.of (Do.absurd (x := "numbers") (a := 0) rfl)
    | some q => obtain ⟨p, acc⟩ := q; have := runN_pos e; omega

noncomputable abbrev u8 (n : Int) : UInt8 := n.toNat.toUInt8
theorem u8_toNat {n : Int} (h0 : 0 ≤ n) (h1 : n < 256) : ((u8 n).toNat : Int) = n := by
  show ((n.toNat % 256 : Nat) : Int) = n
  omega
noncomputable abbrev isEnd (o : Int) : Bool := decide (o % 128 < 64)
/-- the whole segments, and what is left -/
noncomputable def sg : List Int → List (List Int) × List Int
  | [] => ([], [])
  | o :: r => if isEnd o = true then ([o] :: (sg r).1, (sg r).2) else match (sg r).1 with
    | [] => ([], o :: (sg r).2)
    | s :: ss => ((o :: s) :: ss, (sg r).2)
noncomputable def segGo (v : Int) (s : List Int) : Int := s.foldl (fun v o => v * 64 + o % 64) v
noncomputable abbrev segVal (s : List Int) : Int := segGo 0 s
theorem bit63 : ∀ n < 256, Builtin.bitAnd ((n : Nat) : Int) 63 = (n : Int) % 64 := by decide +kernel
theorem bit64 : ∀ n < 256, (Builtin.bitAnd ((n : Nat) : Int) 64 != 0) = !(isEnd (n : Int)) := by decide +kernel
theorem bit63' {n : Int} (h0 : 0 ≤ n) (h1 : n < 256) : Builtin.bitAnd n 63 = n % 64 := by
  have := bit63 n.toNat (by omega); rwa [Int.toNat_of_nonneg h0] at this
theorem bit64' {n : Int} (h0 : 0 ≤ n) (h1 : n < 256) : (Builtin.bitAnd n 64 != 0) = !(isEnd n) := by
  have := bit64 n.toNat (by omega); rwa [Int.toNat_of_nonneg h0] at this
theorem sg_end {o : Int} {r : List Int} (h : isEnd o = true) : sg (o :: r) = ([o] :: (sg r).1, (sg r).2) := by rw [sg, if_pos h]
theorem sg_go {o : Int} {r s : List Int} {ss : List (List Int)} (h : isEnd o = false) (e : (sg r).1 = s :: ss) : sg (o :: r) = ((o :: s) :: ss, (sg r).2) := by
  rw [sg, if_neg (by rw [h]; decide), e]
theorem sg_none {o : Int} {r : List Int} (h : isEnd o = false) (e : (sg r).1 = []) : sg (o :: r) = ([], o :: (sg r).2) := by
  rw [sg, if_neg (by rw [h]; decide), e]
theorem sg_cat : ∀ l : List Int, (sg l).1.flatten ++ (sg l).2 = l
  | [] => rfl
  | o :: r => by
    have ih := sg_cat r
    cases h : isEnd o with
    | true => rw [sg_end h, List.flatten_cons]; simp only [List.cons_append, List.nil_append, ih]
    | false =>
      cases e : (sg r).1 with
      | nil => rw [sg_none h e]; rw [e] at ih; simp only [List.flatten_nil, List.nil_append] at ih ⊢; rw [ih]
      | cons s ss => rw [sg_go h e]; rw [e] at ih; simp only [List.flatten_cons, List.cons_append, List.append_assoc] at ih ⊢; rw [ih]
theorem sg_drop {s : List Int} {ss : List (List Int)} : ∀ {l : List Int}, (sg l).1 = s :: ss → sg (l.drop s.length) = (ss, (sg l).2) ∧ s ≠ []
  | [], e => by cases e
  | o :: r, e => by
    cases h : isEnd o with
    | true => rw [sg_end h] at e ⊢; cases e; exact ⟨rfl, by simp⟩
    | false =>
      cases e2 : (sg r).1 with
      | nil => rw [sg_none h e2] at e; cases e
      | cons s' ss' =>
        rw [sg_go h e2] at e ⊢
        cases e
        exact ⟨(sg_drop e2).1, by simp⟩
theorem pvLoop_sg {f : List Int → Int → Nat → Option (Int × Nat)} (hf : ∀ l val i, f l val i = match (sg l).1 with | [] => none | s :: _ => some (segGo val s, i + s.length)) : ∀ (r : List Int) (i : Nat) (val o : Int), (∀ n ∈ r, 0 ≤ n ∧ n < 256) → 0 ≤ o → o < 256 → 0 ≤ val → pvLoop (r.map u8) i val o = if isEnd o = true then some (val, i) else f r val i
  | [], i, val, o, hr, h0, h1, hv => by
    rw [List.map_nil, pvLoop, bit64' h0 h1, hf]
    cases h : isEnd o <;> rfl
  | c :: r, i, val, o, hr, h0, h1, hv => by
    obtain ⟨c0, c1⟩ := hr c (.head _)
    rw [List.map_cons, pvLoop, bit64' h0 h1, u8_toNat c0 c1]
    cases h : isEnd o with
    | true => rfl
    | false =>
      have e1 : Builtin.bitOr (val * 2 ^ (6 : Int).toNat) (Builtin.bitAnd c 63) = val * 64 + c % 64 := by
        rw [bit63' c0 c1]
        have := or_add hv (b := c % 64) (by omega) 6 (by show c % 64 < 64; omega)
        exact this
      rw [e1, if_pos (by rfl), if_neg (by decide), pvLoop_sg hf r (i + 1) _ c (fun n hn => hr n (.tail _ hn)) c0 c1 (by omega), hf, hf]
      cases h2 : isEnd c with
      | true => rw [sg_end h2]; rfl
      | false =>
        rw [if_neg (by decide)]
        cases e : (sg r).1 with
        | nil => rw [sg_none h2 e]
        | cons s ss => rw [sg_go h2 e]; show some (segGo _ s, i + 1 + s.length) = some (segGo _ s, i + (s.length + 1)); rw [Nat.add_right_comm, Nat.add_assoc i]
theorem pv_sg {l : List Int} {i : Nat} (hr : ∀ n ∈ l, 0 ≤ n ∧ n < 256) : pv (l.map u8) i = match (sg l).1 with | [] => none | s :: _ => some (segVal s, i + s.length) := by
  cases l with
  | nil => rfl
  | cons c r =>
    obtain ⟨c0, c1⟩ := hr c (.head _)
    rw [List.map_cons, pv, u8_toNat c0 c1, bit63' c0 c1, pvLoop_sg (fun _ _ _ => rfl) r (i + 1) _ c (fun n hn => hr n (.tail _ hn)) c0 c1 (by omega)]
    cases h2 : isEnd c with
    | true => rw [sg_end h2]; show _ = some (0 * 64 + c % 64, i + 1); rw [if_pos rfl, Int.zero_mul, Int.zero_add]
    | false =>
      rw [if_neg (by decide)]
      cases e : (sg r).1 with
      | nil => rw [sg_none h2 e]
      | cons s ss => rw [sg_go h2 e]; show some (segGo _ s, i + 1 + s.length) = some (segGo (0 * 64 + c % 64) s, i + (s.length + 1)); rw [Nat.add_right_comm, Nat.add_assoc i, Int.zero_mul, Int.zero_add]
theorem byteArr_list (os : List Int) : (byteArr os).toList = os.map u8 := rfl
theorem runN_sg {os : List Int} (hr : ∀ n ∈ os, 0 ≤ n ∧ n < 256) : ∀ n, n ≤ (sg os).1.length → runN (byteArr os) n = some (((sg os).1.take n).flatten.length, ((sg os).1.take n).map segVal) ∧ sg (os.drop ((sg os).1.take n).flatten.length) = ((sg os).1.drop n, (sg os).2)
  | 0, _ => ⟨rfl, rfl⟩
  | n + 1, hn => by
    obtain ⟨h1, h2⟩ := runN_sg hr n (by omega)
    have hlt : n < (sg os).1.length := by omega
    have e1 : (sg os).1.take (n + 1) = (sg os).1.take n ++ [(sg os).1[n]] := by rw [List.take_add_one, List.getElem?_eq_getElem hlt]; rfl
    have e2 : (sg os).1.drop n = (sg os).1[n] :: (sg os).1.drop (n + 1) := by rw [List.drop_eq_getElem_cons hlt]
    have hl : ((sg os).1.take (n + 1)).flatten.length = ((sg os).1.take n).flatten.length + (sg os).1[n].length := by rw [e1, List.flatten_append, List.length_append, List.flatten_singleton]
    have h3 : (sg (os.drop ((sg os).1.take n).flatten.length)).1 = (sg os).1[n] :: (sg os).1.drop (n + 1) := by rw [h2]; exact e2
    refine ⟨?_, ?_⟩
    · rw [runN, h1]
      dsimp only
      rw [byteArr_list, ← List.map_drop, pv_sg (fun k hk => hr k (List.mem_of_mem_drop hk)), h3]
      dsimp only
      rw [hl, e1, List.map_append]; rfl
    · have := (sg_drop h3).1
      rw [h2, List.drop_drop] at this
      rw [hl, this]
theorem nums_sg {os : List Int} (hr : ∀ n ∈ os, 0 ≤ n ∧ n < 256) : NumsIs (byteArr os) ((sg os).1.map segVal) := by
  obtain ⟨h1, h2⟩ := runN_sg hr (sg os).1.length (Nat.le_refl _)
  rw [List.take_of_length_le (Nat.le_refl _)] at h1 h2
  refine ⟨_, _, h1, ?_⟩
  rw [byteArr_list, ← List.map_drop, pv_sg (fun k hk => hr k (List.mem_of_mem_drop hk)), h2, List.drop_length]
/-- two zeros ahead -/
theorem nums_ahead {os : List Int} (hr : ∀ n ∈ os, 0 ≤ n ∧ n < 256) : NumsIs (byteArr ([64, 192] ++ os)) ((sg os).1.map segVal) := by
  have h := nums_sg (os := 64 :: 192 :: os) (fun n hn => by
    simp only [List.mem_cons] at hn
    rcases hn with rfl | rfl | hn
    · decide
    · decide
    · exact hr n hn)
  have e : ((sg (64 :: 192 :: os)).1.map segVal) = (sg os).1.map segVal := by
    cases e : (sg os).1 with
    | nil => rw [sg_none rfl (by rw [sg_none rfl e])]
    | cons s ss => rw [sg_go rfl (by rw [sg_go rfl e])]; rfl
  rw [e] at h
  exact h

theorem range_plain (a b : Nat) : sliceRange (a : Int) (b : Int) 1 = (List.range (b - a)).map fun k => a + k := by
  unfold sliceRange
  have e : (if (1 : Int) > 0 then (if (a : Int) < b then ((b : Int) - a + 1 - 1) / 1 else 0) else (if (a : Int) > b then ((a : Int) - b - 1 - 1) / (-1) else 0)).toNat = b - a := by
    rw [if_pos (by decide)]
    split
    · rw [Int.ediv_one]; omega
    · omega
  dsimp only
  rw [e]
  refine List.map_congr_left fun k hk => ?_
  omega
theorem gpick {α : Type} (xs : List α) (lo hi : Option Int) : (sliceRange (sliceBounds lo hi none xs.length).1 (sliceBounds lo hi none xs.length).2.1 (sliceBounds lo hi none xs.length).2.2).filterMap (xs[·]?) = (xs.drop (kms_lo lo xs.length)).take (kms_hi hi xs.length - kms_lo lo xs.length) := by
  rw [kms_bounds, range_plain]
  by_cases h : kms_lo lo xs.length ≤ kms_hi hi xs.length
  · refine PySem.StrLaws.picks xs _ _ ?_
    have : kms_hi hi xs.length ≤ xs.length := by
      unfold kms_hi
      split
      · exact Nat.le_refl _
      · split <;> omega
    omega
  · rw [show kms_hi hi xs.length - kms_lo lo xs.length = 0 by omega]; simp
theorem dpick_eq (xs : List PyData) (lo hi : Option Int) : dpick xs lo hi none = (xs.drop (kms_lo lo xs.length)).take (kms_hi hi xs.length - kms_lo lo xs.length) := gpick xs lo hi
theorem ipick_eq (xs : List Int) (lo hi : Option Int) : ipick xs lo hi none = (xs.drop (kms_lo lo xs.length)).take (kms_hi hi xs.length - kms_lo lo xs.length) := gpick xs lo hi
theorem dpick_to (xs : List PyData) (n : Nat) : dpick xs none (some (n : Int)) none = xs.take n := by
  rw [dpick_eq]
  show (xs.drop 0).take (kms_hi (some (n : Int)) xs.length - 0) = _
  unfold kms_hi
  dsimp only
  rw [if_neg (by omega), List.drop_zero, Int.toNat_natCast]
  exact List.take_eq_take_iff.mpr (by omega)
theorem dpick_from (xs : List PyData) (n : Nat) : dpick xs (some (n : Int)) none none = xs.drop n := by
  rw [dpick_eq]
  unfold kms_lo kms_hi
  dsimp only
  rw [if_neg (by omega), Int.toNat_natCast]
  by_cases h : n ≤ xs.length
  · rw [Nat.min_eq_left h, List.take_of_length_le (by rw [List.length_drop]; exact Nat.le_refl _)]
  · rw [Nat.min_eq_right (by omega), List.drop_length, List.drop_eq_nil_of_le (by omega), List.take_nil]
theorem dpick_init (xs : List PyData) (x : PyData) : dpick (xs ++ [x]) none (some (-1)) none = xs := by
  rw [dpick_eq]
  show ((xs ++ [x]).drop 0).take (kms_hi (some (-1)) (xs ++ [x]).length - 0) = _
  unfold kms_hi
  dsimp only
  rw [if_pos (by decide), List.drop_zero, List.length_append, List.length_singleton]
  show (xs ++ [x]).take (xs.length + 1 - 1 - 0) = _
  rw [Nat.add_sub_cancel, Nat.sub_zero, List.take_left]
theorem dpick_last (xs : List PyData) (x : PyData) : dpick (xs ++ [x]) (some (-1)) none none = [x] := by
  rw [dpick_eq]
  unfold kms_lo kms_hi
  dsimp only
  rw [if_pos (by decide), List.length_append, List.length_singleton]
  show ((xs ++ [x]).drop (xs.length + 1 - 1)).take (xs.length + 1 - (xs.length + 1 - 1)) = _
  rw [Nat.add_sub_cancel, List.drop_left, Nat.add_sub_cancel_left]; rfl
theorem range_back (n : Nat) : sliceRange ((n : Int) - 1) (-1) (-1) = (List.range n).map fun k => n - 1 - k := by
  unfold sliceRange
  have e : (if (-1 : Int) > 0 then (if (n : Int) - 1 < -1 then ((-1) - ((n : Int) - 1) + -1 - 1) / -1 else 0) else (if (n : Int) - 1 > -1 then ((n : Int) - 1 - -1 - -1 - 1) / (- -1) else 0)).toNat = n := by
    rw [if_neg (by decide)]
    split
    · rw [show - (-1 : Int) = 1 by rfl, Int.ediv_one]; omega
    · omega
  dsimp only
  rw [e]
  refine List.map_congr_left fun k hk => ?_
  have := List.mem_range.mp hk
  omega
theorem filterMap_same {α β : Type} {f g : α → Option β} : ∀ {l : List α}, (∀ x ∈ l, f x = g x) → l.filterMap f = l.filterMap g
  | [], _ => rfl
  | x :: l, h => by rw [List.filterMap_cons, List.filterMap_cons, h x (.head _), filterMap_same fun y hy => h y (.tail _ hy)]
theorem pick_back {α : Type} : ∀ (xs : List α), ((List.range xs.length).map fun k => xs.length - 1 - k).filterMap (xs[·]?) = xs.reverse
  | [] => rfl
  | x :: xs => by
    rw [List.length_cons, List.range_succ, List.map_append, List.filterMap_append, List.reverse_cons]
    congr 1
    · rw [← pick_back xs, List.filterMap_map, List.filterMap_map]
      refine filterMap_same fun k hk => ?_
      have := List.mem_range.mp hk
      show (x :: xs)[xs.length + 1 - 1 - k]? = xs[xs.length - 1 - k]?
      rw [show xs.length + 1 - 1 - k = (xs.length - 1 - k) + 1 by omega, List.getElem?_cons_succ]
    · simp
theorem dpick_rev (xs : List PyData) : dpick xs none none (some (-1)) = xs.reverse := by
  unfold dpick
  have e : sliceBounds none none (some (-1)) xs.length = ((xs.length : Int) - 1, -1, -1) := by
    unfold sliceBounds; simp
  rw [e]
  dsimp only
  rw [range_back, pick_back]
/-- the figures of a segment's number -/
noncomputable abbrev figs (s : List Int) : List Int := s.map (· % 64)
theorem segGo_cat (v : Int) (s : List Int) (e : Int) : segGo v (s ++ [e]) = segGo v s * 64 + e % 64 := by unfold segGo; rw [List.foldl_append]; rfl
theorem segGo_low {s : List Int} : ∀ {v : Int}, 0 ≤ v → v * 64 ^ s.length ≤ segGo v s ∧ segGo v s < (v + 1) * 64 ^ s.length := by
  induction s with
  | nil => intro v hv; show v * 1 ≤ v ∧ v < (v + 1) * 1; omega
  | cons o r ih =>
    intro v hv
    obtain ⟨h1, h2⟩ := ih (v := v * 64 + o % 64) (by omega)
    show v * 64 ^ (r.length + 1) ≤ segGo (v * 64 + o % 64) r ∧ segGo (v * 64 + o % 64) r < (v + 1) * 64 ^ (r.length + 1)
    have hp : (0 : Int) < 64 ^ r.length := Int.pow_pos (by decide)
    have e1 : v * 64 ^ (r.length + 1) = v * 64 * 64 ^ r.length := by rw [Int.pow_succ, Int.mul_comm (64 ^ r.length) 64, Int.mul_assoc]
    have e2 : (v + 1) * 64 ^ (r.length + 1) = (v + 1) * 64 * 64 ^ r.length := by rw [Int.pow_succ, Int.mul_comm (64 ^ r.length) 64, Int.mul_assoc]
    rw [e1, e2]
    have h3 : v * 64 * 64 ^ r.length ≤ (v * 64 + o % 64) * 64 ^ r.length := Int.mul_le_mul_of_nonneg_right (by omega) (by omega)
    have h4 : (v * 64 + o % 64 + 1) * 64 ^ r.length ≤ (v + 1) * 64 * 64 ^ r.length := Int.mul_le_mul_of_nonneg_right (by omega) (by omega)
    omega
theorem digs_seg : ∀ (t : List Int), digs 6 t.length (segVal t.reverse) = t.map (· % 64)
  | [] => rfl
  | e :: t => by
    have h0 : 0 ≤ segGo 0 t.reverse := by have := (segGo_low (s := t.reverse) (v := 0) (Int.le_refl _)).1; omega
    rw [List.length_cons, digs, List.reverse_cons, segVal, segGo_cat, List.map_cons]
    have e64 : (2 : Int) ^ 6 = 64 := rfl
    rw [e64, show (segGo 0 t.reverse * 64 + e % 64) % 64 = e % 64 by omega, show (segGo 0 t.reverse * 64 + e % 64) / 64 = segVal t.reverse by unfold segVal; omega, digs_seg t]
/-- the octets may be read back -/
noncomputable def Oct (os : List Int) : Prop := ∀ n ∈ os, 0 ≤ n ∧ n < 256 ∧ (isEnd n = false → 1 ≤ n % 64)
noncomputable def SegOk (s : List Int) : Prop := ∃ i e, s = i ++ [e] ∧ isEnd e = true ∧ (∀ o ∈ i, isEnd o = false) ∧ ∀ n ∈ s, 0 ≤ n ∧ n < 256 ∧ (isEnd n = false → 1 ≤ n % 64)
theorem sg_ok : ∀ {l : List Int}, Oct l → (∀ s ∈ (sg l).1, SegOk s) ∧ ∀ o ∈ (sg l).2, isEnd o = false
  | [], _ => ⟨nofun, nofun⟩
  | o :: r, h => by
    obtain ⟨h1, h2⟩ := sg_ok (l := r) fun n hn => h n (.tail _ hn)
    have ho := h o (.head _)
    cases he : isEnd o with
    | true =>
      rw [sg_end he]
      refine ⟨fun s hs => ?_, h2⟩
      rcases List.mem_cons.mp hs with rfl | hs
      · exact ⟨[], o, rfl, he, nofun, fun n hn => by rw [List.mem_singleton] at hn; exact hn ▸ ho⟩
      · exact h1 s hs
    | false =>
      cases e : (sg r).1 with
      | nil =>
        rw [sg_none he e]
        exact ⟨nofun, fun x hx => (List.mem_cons.mp hx).elim (fun z => z ▸ he) (h2 x)⟩
      | cons s ss =>
        rw [sg_go he e]
        rw [e] at h1
        refine ⟨fun x hx => ?_, h2⟩
        rcases List.mem_cons.mp hx with rfl | hx
        · obtain ⟨i, e', rfl, q1, q2, q3⟩ := h1 s (.head _)
          exact ⟨o :: i, e', rfl, q1, fun x hx => (List.mem_cons.mp hx).elim (fun z => z ▸ he) (q2 x), fun n hn => (List.mem_cons.mp hn).elim (fun z => z ▸ ho) (q3 n)⟩
        · exact h1 x (.tail _ hx)
/-- how many figures _int2digits gives -/
theorem seg_len {s : List Int} (h : SegOk s) : (segVal s = 0 ∧ figs s = [0]) ∨ (segVal s ≠ 0 ∧ (Builtin.Int.intBits (segVal s) + 6 - 1) / 6 = s.length) := by
  obtain ⟨i, e, rfl, q1, q2, q3⟩ := h
  by_cases h0 : segVal (i ++ [e]) = 0
  · refine .inl ⟨h0, ?_⟩
    cases i with
    | nil =>
      rw [segVal, segGo_cat] at h0
      have h1 : e % 64 = 0 := by
        have : segGo 0 [] = 0 := rfl
        rw [this] at h0; omega
      show [e % 64] = [0]
      rw [h1]
    | cons o r =>
      exfalso
      have ho := (q3 o (by simp)).2.2 (q2 o (.head _))
      have := (segGo_low (s := r ++ [e]) (v := 0 * 64 + o % 64) (by omega)).1
      have hp : (0 : Int) < 64 ^ (r ++ [e]).length := Int.pow_pos (by decide)
      have h1 : 1 * 64 ^ (r ++ [e]).length ≤ (0 * 64 + o % 64) * 64 ^ (r ++ [e]).length := Int.mul_le_mul_of_nonneg_right (by omega) (by omega)
      have h2 : segVal (o :: r ++ [e]) = segGo (0 * 64 + o % 64) (r ++ [e]) := rfl
      omega
  · refine .inr ⟨h0, ?_⟩
    obtain ⟨b1, b2⟩ := segGo_low (s := i ++ [e]) (v := 0) (Int.le_refl _)
    have hn : 0 ≤ segVal (i ++ [e]) := by show 0 ≤ segGo 0 (i ++ [e]); omega
    have e64 : ∀ k : Nat, (64 : Int) ^ k = 2 ^ (6 * k) := fun k => by rw [show (64 : Int) = 2 ^ 6 by rfl, ← Int.pow_mul]
    have up : Builtin.Int.intBits (segVal (i ++ [e])) ≤ 6 * (i.length + 1) := by
      refine bits_bound hn ?_
      rw [Int.zero_add, Int.one_mul, List.length_append, List.length_singleton, e64] at b2
      exact b2
    have lo : 6 * i.length + 1 ≤ Builtin.Int.intBits (segVal (i ++ [e])) := by
      cases i with
      | nil =>
        refine bits_ge (k := 0) ?_
        show 1 ≤ _
        omega
      | cons o r =>
        have ho := (q3 o (by simp)).2.2 (q2 o (.head _))
        have := (segGo_low (s := r ++ [e]) (v := 0 * 64 + o % 64) (by omega)).1
        have hp : (0 : Int) < 64 ^ (r ++ [e]).length := Int.pow_pos (by decide)
        have h1 : 1 * 64 ^ (r ++ [e]).length ≤ (0 * 64 + o % 64) * 64 ^ (r ++ [e]).length := Int.mul_le_mul_of_nonneg_right (by omega) (by omega)
        have h2 : segVal (o :: r ++ [e]) = segGo (0 * 64 + o % 64) (r ++ [e]) := rfl
        have h4 := e64 (r ++ [e]).length
        rw [List.length_append, List.length_singleton] at h4 h1 this
        refine bits_ge ?_
        have h3 : (2 : Int) ^ (6 * (o :: r).length) ≤ segVal (o :: r ++ [e]) := by rw [List.length_cons, h2]; omega
        rw [← pow_cast] at h3
        omega
    rw [List.length_append, List.length_singleton]
    omega

theorem shp_ints (ns : List Int) : Shp (.list (ns.map .int)) := by
  refine ⟨?_, ?_⟩
  · rw [PyData.canLay0]; exact ke_canLayAll0 ns
  · have : PyData.depthAll (ns.map .int) = 0 := by
      induction ns with
      | nil => rfl
      | cons n ns ih => rw [List.map_cons, PyData.depthAll, ih]; rfl
    rw [PyData.depth, this]; omega
theorem eqv_ints (ns ms : List Int) : PyData.eqv (.list (ns.map .int)) (.list (ms.map .int)) = decide (ns = ms) := by
  rw [PyData.eqv]; exact ked_eqvAll ns ms
theorem op_nei {C : Cfg} (ns ms : List Int) : Op2 C (compareOp .NotEq) (.list (ns.map .int)) (.list (ms.map .int)) (.bool (!decide (ns = ms))) := by
  rw [← eqv_ints]; exact op_ned (shp_ints _) (shp_ints _)
theorem op_eqi {C : Cfg} (ns ms : List Int) : Op2 C (compareOp .Eq) (.list (ns.map .int)) (.list (ms.map .int)) (.bool (decide (ns = ms))) := by
  rw [← eqv_ints]; exact op_eqd (shp_ints _) (shp_ints _)
/-- functions of data by functions of what they tell -/
noncomputable def liftF {α : Type} (inj : α → PyData) (g : α → PyData) (d : PyData) : PyData := open Classical in if h : ∃ a, inj a = d then g (Classical.choose h) else d
noncomputable def liftT {α : Type} (inj : α → PyData) (p : α → Bool) (d : PyData) : Bool := open Classical in if h : ∃ a, inj a = d then p (Classical.choose h) else false
section
variable {α : Type} {inj : α → PyData} {p : α → Bool} {g : α → PyData}
theorem liftF_at (hinj : ∀ a b, inj a = inj b → a = b) (a : α) : liftF inj g (inj a) = g a := by
  have h : ∃ b, inj b = inj a := ⟨a, rfl⟩
  unfold liftF
  rw [dif_pos h, hinj _ _ (Classical.choose_spec h)]
theorem liftT_at (hinj : ∀ a b, inj a = inj b → a = b) (a : α) : liftT inj p (inj a) = p a := by
  have h : ∃ b, inj b = inj a := ⟨a, rfl⟩
  unfold liftT
  rw [dif_pos h, hinj _ _ (Classical.choose_spec h)]
theorem outs_lift (hinj : ∀ a b, inj a = inj b → a = b) (src : List α) : outs (liftT inj p) (liftF inj g) (src.map inj) = (src.filter p).map g := by
  unfold outs
  induction src with
  | nil => rfl
  | cons a src ih =>
    rw [List.map_cons, List.filterMap_cons, liftT_at hinj, liftF_at hinj]
    cases h : p a with
    | true => rw [if_pos rfl, List.filter_cons_of_pos h, List.map_cons]; dsimp only; rw [ih]
    | false => rw [if_neg (by decide), List.filter_cons_of_neg (by rw [h]; decide)]; exact ih
theorem int_inj : ∀ a b : Int, PyData.int a = .int b → a = b := fun a b h => by injection h
theorem str_inj : ∀ a b : Str, PyData.str a = .str b → a = b := fun a b h => by injection h
theorem bool_inj : ∀ a b : Bool, PyData.bool a = .bool b → a = b := fun a b h => by injection h
theorem ints_inj : ∀ a b : List Int, PyData.list (a.map .int) = .list (b.map .int) → a = b := fun a b h => by
  injection h with h
  exact (List.map_inj_right int_inj).mp h
variable {C : Cfg} {k : Nat} {env : Env} {m mc : Mp}
theorem CompBody.one {x : Str} {px : Pos} {ifs : List Expr} {elt : Expr} {scope : Scope} (hinj : ∀ a b, inj a = inj b → a = b) (src : List α) (hx : ∀ L', CanBind (compEnvC scope (closOf env scope.names []) L' env) true x) (hmc : mc.lookup x = none) (hk : x ≠ kI ∧ x ≠ kS ∧ x ≠ kA)
    (ht : ∀ L' a, a ∈ src → Tes C k (compEnvC scope (closOf env scope.names []) L' env) ((x, .d (inj a)) :: mc) ifs (p a)) (he : ∀ L' a, a ∈ src → p a = true → Ev C k (compEnvC scope (closOf env scope.names []) L' env) ((x, .d (inj a)) :: mc) elt (g a)) :
    CompBody C k env scope mc (.Name x px) ifs elt (liftT inj p) (liftF inj g) (src.map inj) := by
  intro L' d hd
  obtain ⟨a, ha, rfl⟩ := List.mem_map.mp hd
  refine ⟨[(x, .d (inj a))], fun m => Asg.name (hx L'), fun y hy => ?_, fun y hy => ?_, ?_, ?_⟩
  · by_cases h : y = x
    · rw [h]; exact hmc
    · exact absurd (by rw [lk_ne h]; rfl) hy
  · have h : y ≠ x := by exact hy.elim (fun z => z ▸ hk.1.symm) fun z => z.elim (fun z => z ▸ hk.2.1.symm) fun z => z ▸ hk.2.2.symm
    rw [lk_ne h]; rfl
  · rw [liftT_at hinj]; exact ht L' a ha
  · rw [liftT_at hinj, liftF_at hinj]; exact he L' a ha
theorem EvL.comp1 {x : Str} {px : Pos} {iter : Expr} {ifs : List Expr} {elt : Expr} {scope : Scope} {pos : Pos} (hinj : ∀ a b, inj a = inj b → a = b) (src : List α) (ok : compOk scope env = true) (sn : Seen scope m mc) (hit : EvI C k env m iter (src.map inj)) (hsz : src.length ≤ sizeLine)
    (hx : ∀ L', CanBind (compEnvC scope (closOf env scope.names []) L' env) true x) (hmc : mc.lookup x = none) (hk : x ≠ kI ∧ x ≠ kS ∧ x ≠ kA)
    (ht : ∀ L' a, a ∈ src → Tes C k (compEnvC scope (closOf env scope.names []) L' env) ((x, .d (inj a)) :: mc) ifs (p a)) (he : ∀ L' a, a ∈ src → p a = true → Ev C k (compEnvC scope (closOf env scope.names []) L' env) ((x, .d (inj a)) :: mc) elt (g a))
    (hfs : ∀ x, foldedSetIterable iter env x = pure x := by intro _; rfl) : EvL C k env m (.ListComp elt [⟨.Name x px, iter, ifs, 0⟩] scope pos) ((src.filter p).map g) := by
  have := EvL.comp (pos := pos) (elt := elt) ok sn hit (CompBody.one (px := px) (ifs := ifs) (elt := elt) hinj src hx hmc hk ht he) (by rw [List.length_map]; exact hsz) hfs
  rwa [outs_lift hinj] at this
/-- without a test -/
theorem EvL.compA {x : Str} {px : Pos} {iter : Expr} {elt : Expr} {scope : Scope} {pos : Pos} (hinj : ∀ a b, inj a = inj b → a = b) (src : List α) (ok : compOk scope env = true) (sn : Seen scope m mc) (hit : EvI C k env m iter (src.map inj)) (hsz : src.length ≤ sizeLine)
    (hx : ∀ L', CanBind (compEnvC scope (closOf env scope.names []) L' env) true x) (hmc : mc.lookup x = none) (hk : x ≠ kI ∧ x ≠ kS ∧ x ≠ kA)
    (he : ∀ L' a, a ∈ src → Ev C k (compEnvC scope (closOf env scope.names []) L' env) ((x, .d (inj a)) :: mc) elt (g a))
    (hfs : ∀ x, foldedSetIterable iter env x = pure x := by intro _; rfl) : EvL C k env m (.ListComp elt [⟨.Name x px, iter, [], 0⟩] scope pos) (src.map g) := by
  have := EvL.comp1 (px := px) (pos := pos) (p := fun _ => true) (g := g) (ifs := []) (elt := elt) hinj src ok sn hit hsz hx hmc hk (fun _ _ _ => .inl ⟨rfl, rfl⟩) (fun L' a ha _ => he L' a ha) hfs
  rwa [List.filter_eq_self.mpr fun _ _ => rfl] at this
end
noncomputable def csum (n : Nat) : List (List Int) → Nat
  | [] => 0
  | s :: ss => (n + s.length) + csum (n + s.length) ss
theorem csum_snoc (s : List Int) : ∀ (ss : List (List Int)) (n : Nat), csum n (ss ++ [s]) = csum n ss + (n + ss.flatten.length + s.length)
  | [], n => by simp [csum]
  | t :: ss, n => by rw [List.cons_append, csum, csum_snoc s ss, csum, List.flatten_cons, List.length_append]; omega
/-- the sum of the places at which numbers end -/
noncomputable def plc (n : Nat) : List Int → Nat
  | [] => 0
  | o :: r => (if isEnd o = true then n + 1 else 0) + plc (n + 1) r
theorem csum_plc : ∀ (l : List Int) (n : Nat), csum n (sg l).1 = plc n l
  | [], n => rfl
  | o :: r, n => by
    rw [plc]
    cases h : isEnd o with
    | true => rw [sg_end h, csum, if_pos rfl, csum_plc r]; rfl
    | false =>
      rw [if_neg (by decide), Nat.zero_add, ← csum_plc r]
      cases e : (sg r).1 with
      | nil => rw [sg_none h e]; rfl
      | cons s ss => rw [sg_go h e, csum, csum, List.length_cons, show n + (s.length + 1) = n + 1 + s.length by omega]
theorem mod128_go {o : Int} (h0 : 0 ≤ o) (h : isEnd o = false) : 64 + o % 64 = o % 128 := by
  have : ¬ o % 128 < 64 := by simpa using h
  omega
theorem mod128_end {o : Int} (h : isEnd o = true) : o % 64 = o % 128 := by
  have : o % 128 < 64 := by simpa using h
  omega

theorem DoS.iteSub {C : Cfg} {T : List Addr} {k : Nat} {env : Env} {fz : Bool} {m mt : Mp} {Q : Fl → Mp → Prop} {test : Expr} {body orelse rest : List Stmt} {pos : Pos} {b : Bool} (ht : Te C k env m test b) (h1 : b = true → Do C T k env fz body m fun f m' => f = .next ∧ Sub m' mt) (h2 : b = false → Do C T k env fz orelse m fun f m' => f = .next ∧ Sub m' mt)
    (h : Do C T k env fz rest mt Q) : Do C T k env fz (.If test body orelse pos :: rest) m Q :=
  Do.cons (DoS.mono (DoS.ite ht h1 h2) fun f m' q => by obtain ⟨rfl, hs⟩ := q; exact h.sub hs)
noncomputable def ld (os : List Int) (i : Nat) : List Int := (((sg os).1.take i).flatten).map (· % 128)
noncomputable def ck (os : List Int) (i : Nat) : Nat := csum 0 ((sg os).1.take i)
theorem ld_len {os : List Int} (i : Nat) : (ld os i).length ≤ os.length := by
  rw [ld, List.length_map]
  have h := congrArg List.length (sg_cat os)
  rw [List.length_append] at h
  have h2 := congrArg List.length (congrArg List.flatten (List.take_append_drop i (sg os).1))
  rw [List.flatten_append, List.length_append] at h2
  omega
theorem check_spec {C : Cfg} (W : Wd C) {os : List Int} (hl : os.length ≤ 60) (ho : Oct os) :
    Opn C 9 (fun vs => PySem.call (.ref W.aChk) vs) [.list (os.map .int)] (.int (plc 0 os : Nat)) := by
  refine Opn.ofDef ["octets"] [("octets", .d (.list (os.map .int)))] W.st W.hChk
    (fun pm code doc vals h => len1_ h fun _ => rfl) (fun n hn => .inl ?_) rfl rfl (fun L pm code doc => ?_)
  · simp only [List.mem_cons, List.not_mem_nil, or_false] at hn
    rcases hn with rfl; rfl
  have hr : ∀ n ∈ os, 0 ≤ n ∧ n < 256 := fun n hn => ⟨(ho n hn).1, (ho n hn).2.1⟩
  have hsz : (os.map PyData.int).length ≤ sizeLine := by rw [List.length_map, sizeLine_eq]; omega
  obtain ⟨ss, hss⟩ : ∃ ss, ss = (sg os).1 := ⟨_, rfl⟩
  obtain ⟨nums, hnums⟩ : ∃ nums : List Int, nums = ss.map segVal := ⟨_, rfl⟩
  have hn1 : NumsIs (byteArr os) nums := by rw [hnums, hss]; exact nums_sg hr
  have hn2 : NumsIs (byteArr ([64, 192] ++ os)) nums := by rw [hnums, hss]; exact nums_ahead hr
  refine Do.cons (DoS.assign ⟨.inl rfl, nofun⟩ (d := .list (nums.map .int)) (Ev.fn (ds := [.list (os.map .int)]) W W.hNum rfl rfl rfl (NoStar.cons NoStar.nil) ?_ (num_spec W (by omega) hr hn1) (by decide)) ?_)
  · walk_at "ev"
  dsimp only
  refine Do.cons (DoS.ite (b := false) (Te.cast (Te.cmp' (d₁ := .list (nums.map .int)) (d₂ := .list (nums.map .int)) rfl (Ev.fn (ds := [.list (([64, 192] ++ os).map .int)]) W W.hNum rfl rfl rfl (NoStar.cons NoStar.nil) ?_ (num_spec W ?_ ?_ hn2) (by decide)) ?_ (op_nei nums nums)) (by simp)) (fun h => by cases h) (fun _ => Do.nil ?_))
  · apply Evs.cons' rfl ?_ ?_
    rotate_left
    · exact Evs.nil
    rw [List.map_append]
    refine Ev.bin ?_ ?_ (Op2L.op (op_addl ?_))
    · exact Ev.list' (ds := [.int 64, .int 192]) (by walk_at "ev") (by rw [sizeLine_eq]; decide)
    · walk_at "ev"
    · rw [sizeLine_eq, List.length_map, List.length_map]; simp only [List.length_cons, List.length_nil]; omega
  · rw [List.length_append]; simp only [List.length_cons, List.length_nil]; omega
  · intro n hn
    simp only [List.cons_append, List.nil_append, List.mem_cons] at hn
    rcases hn with rfl | rfl | hn
    · decide
    · decide
    · exact hr n hn
  · walk_at "ev"
  dsimp only
  refine Do.cons (DoS.assign ⟨.inl rfl, nofun⟩ (d := .list []) ?_ ?_)
  · walk_at "ev"
  dsimp only
  refine Do.cons (DoS.assign ⟨.inl rfl, nofun⟩ (d := .int 0) ?_ ?_)
  · walk_at "ev"
  dsimp only
  have hlen : nums.length = ss.length := by rw [hnums, List.length_map]
  have hss' := sg_ok ho
  rw [← hss] at hss'
  have hcat := sg_cat os
  rw [← hss] at hcat
  refine Do.cons (DoS.for (xs := nums.map .int) (fun i => [("check", .d (.int (ck os i : Nat))), ("laid", .d (.list ((ld os i).map .int))), ("octets", .d (.list (os.map .int)))]) "[u" "[v" (by decide) (by refine ⟨?_, ?_, ?_⟩ <;> (intro h; cases h)) (by refine ⟨?_, ?_, ?_⟩ <;> (intro h; cases h))
    ⟨.inl rfl, nofun⟩ ?_ (SubL.sub ?_) (fun i => ⟨rfl, rfl⟩) ⟨rfl, rfl⟩ (fun i d hi bu bv => ?_) ?_)
  · apply EvI.list
    walk_at "ev"
  · repeat (first | exact trivial | refine ⟨rfl, ?_⟩)
  · obtain ⟨s, hs, rfl⟩ : ∃ s, ss[i]? = some s ∧ d = .int (segVal s) := by
      rw [hnums, List.map_map, List.getElem?_map] at hi
      cases e : ss[i]? with
      | none => rw [e] at hi; cases hi
      | some s => rw [e] at hi; exact ⟨s, rfl, (Option.some.inj hi).symm⟩
    have sok := hss'.1 s (List.mem_of_getElem? hs)
    have hsl : s.length ≤ 60 := by
      have h1 : s.length ≤ ss.flatten.length := (List.sublist_flatten_of_mem (List.mem_of_getElem? hs)).length_le
      have h2 := congrArg List.length hcat
      rw [List.length_append] at h2
      omega
    have hx0 : 0 ≤ segVal s := by have := (segGo_low (s := s) (v := 0) (Int.le_refl _)).1; show 0 ≤ segGo 0 s; omega
    have hdg : digs 6 s.length (segVal s) = (figs s).reverse := by
      have := digs_seg s.reverse
      rw [List.reverse_reverse, List.length_reverse, List.map_reverse] at this
      exact this
    obtain ⟨K, f0, hK, hK2, hdig, hf⟩ : ∃ (K : Nat) (f0 : List Int), (Builtin.Int.intBits (segVal s) + 6 - 1) / 6 = K ∧ K ≤ 60 ∧ digs 6 K (segVal s) = f0.reverse ∧ ((segVal s = 0 ∧ f0 = [] ∧ figs s = [0]) ∨ (segVal s ≠ 0 ∧ f0 = figs s)) := by
      rcases seg_len sok with ⟨h1, h2⟩ | ⟨h1, h2⟩
      · exact ⟨0, [], by rw [h1]; rfl, by decide, rfl, .inl ⟨h1, rfl, h2⟩⟩
      · exact ⟨s.length, figs s, h2, hsl, hdg, .inr ⟨h1, rfl⟩⟩
    obtain ⟨init, e, rfl, q1, q2, q3⟩ := sok
    have hf0 : f0.length ≤ 60 := by
      have := congrArg List.length hdig
      rw [digs_length, List.length_reverse] at this; omega
    refine Do.cons (DoS.assign ⟨.inl rfl, nofun⟩ (d := .list (f0.map .int)) (Ev.cast (Ev.slice' (xs := (f0.reverse).map .int) (lo := none) (hi := none) (st := some (-1)) (fun _ _ => ⟨_, rfl⟩) (Ev.fn (ds := [.int (segVal (init ++ [e])), .int 6]) W W.hI2D rfl rfl rfl (NoStar.cons (NoStar.cons NoStar.nil)) ?_ (hdig ▸ i2d_spec W (n := 6) (j := 6) hx0 (by decide) hK (by omega) (by omega) (by decide) (by omega)) (by decide)) ?_ ?_ ?_ ?_ ?_) ?_) ?_)
    · walk_at "ev"
    · walk_at "ev"
    · walk_at "ev"
    · walk_at "ev"
    · rw [List.length_map, List.length_reverse, sizeLine_eq]; omega
    · decide
    · rw [dpick_rev, ← List.map_reverse, List.reverse_reverse]
    dsimp only
    refine DoS.iteSub (b := (segVal (init ++ [e]) == 0)) (mt := ("figures", .d (.list ((figs (init ++ [e])).map .int))) :: ("[u", bu) :: ("[v", bv) :: [("check", .d (.int (ck os i : Nat))), ("laid", .d (.list ((ld os i).map .int))), ("octets", .d (.list (os.map .int)))]) ?_ (fun hb => ?_) (fun hb => ?_) ?_
    · walk_at "ev"
    · have hb : segVal (init ++ [e]) = 0 := by simpa using hb
      obtain ⟨_, rfl, h3⟩ := hf.resolve_right fun z => z.1 hb
      refine Do.cons (DoS.assign ⟨.inl rfl, nofun⟩ (d := .list ((figs (init ++ [e])).map .int)) (Ev.cast (d' := .list ([] ++ [.int 0])) ?_ (by rw [h3]; rfl)) (Do.nil ⟨rfl, ?_⟩))
      · walk_at "ev"
        rw [sizeLine_eq]; decide
      · exact SubL.sub (by repeat (first | exact trivial | refine ⟨rfl, ?_⟩))
    · have hb : segVal (init ++ [e]) ≠ 0 := by simpa using hb
      obtain ⟨_, rfl⟩ := hf.resolve_left fun z => hb z.1
      exact Do.nil ⟨rfl, SubL.sub (by repeat (first | exact trivial | refine ⟨rfl, ?_⟩))⟩
    · have hld : ld os (i + 1) = ld os i ++ (init.map (fun n => 64 + n % 64) ++ [e % 64]) := by
        have e1 : (sg os).1.take (i + 1) = (sg os).1.take i ++ [init ++ [e]] := by rw [List.take_add_one, ← hss, hs]; rfl
        show (((sg os).1.take (i + 1)).flatten).map (· % 128) = _
        rw [e1, List.flatten_append, List.flatten_singleton, List.map_append, List.map_append]
        congr 1
        congr 1
        · refine List.map_congr_left fun n hn => ?_
          exact (mod128_go (q3 n (by simp [hn])).1 (q2 n hn)).symm
        · show [e % 128] = [e % 64]
          rw [mod128_end q1]
      have hck : ck os (i + 1) = ck os i + (ld os (i + 1)).length := by
        have e1 : (sg os).1.take (i + 1) = (sg os).1.take i ++ [init ++ [e]] := by rw [List.take_add_one, ← hss, hs]; rfl
        unfold ck ld
        rw [List.length_map, e1, csum_snoc, List.flatten_append, List.flatten_singleton]
        simp only [List.length_append]
        omega
      have hl1 := ld_len (os := os) (i + 1)
      have hl0 := ld_len (os := os) i
      have hil : init.length ≤ 60 := by rw [List.length_append] at hsl; omega
      have efig : (figs (init ++ [e])).map PyData.int = (figs init).map .int ++ [.int (e % 64)] := by
        show ((init ++ [e]).map (· % 64)).map PyData.int = _
        rw [List.map_append, List.map_append]; rfl
      have hfl : ((figs (init ++ [e])).map PyData.int).length ≤ sizeLine := by rw [List.length_map, List.length_map, sizeLine_eq]; omega
      refine Do.cons (DoS.assign ⟨.inl rfl, nofun⟩ (d := .list ((ld os (i + 1)).map .int)) (Ev.cast (d' := .list (((ld os i).map .int ++ (figs init).map (fun n => .int (64 + n))) ++ [.int (e % 64)])) (Ev.bin (d₁ := .list ((ld os i).map .int ++ (figs init).map (fun n => .int (64 + n)))) (d₂ := .list [.int (e % 64)]) (Ev.bin (d₁ := .list ((ld os i).map .int)) (d₂ := .list ((figs init).map (fun n => .int (64 + n)))) ?_ (EvL.compA (mc := []) int_inj (figs init) rfl ⟨fun y b h => (by cases h), by decide⟩ (EvI.list ?_) ?_ (fun L' => by exact ⟨.inl rfl, (by intro h; cases h)⟩) rfl (by decide) (fun L' a ha => ?_)).ev (Op2L.op (op_addl ?_))) ?_ (Op2L.op (op_addl ?_))) ?_) ?_)
      · walk_at "ev"
      · refine Ev.cast (d' := .list (dpick ((figs (init ++ [e])).map .int) none (some (-1)) none)) ?_ (by rw [efig, dpick_init])
        walk_at "ev"
        · exact hfl
        · nofun
      · rw [List.length_map, sizeLine_eq]; omega
      · walk_at "ev"
      · simp only [List.length_map, sizeLine_eq]; omega
      · refine Ev.cast (d' := .list (dpick ((figs (init ++ [e])).map .int) (some (-1)) none none)) ?_ (by rw [efig, dpick_last])
        walk_at "ev"
        · exact hfl
        · nofun
      · simp only [List.length_append, List.length_map, List.length_singleton, sizeLine_eq]; omega
      · rw [hld, List.map_append, List.map_append, List.map_map, List.map_map, List.append_assoc]; rfl
      dsimp only
      refine Do.cons (DoS.aug (d0 := .int (ck os i : Nat)) (d1 := .int ((((ld os (i + 1)).map PyData.int).length : Nat) : Int)) (d := .int ((ck os i : Nat) + ((((ld os (i + 1)).map PyData.int).length : Nat) : Int))) ⟨.inl rfl, nofun⟩ rfl ?_ op_iadd (Do.nil ?_))
      · walk_at "ev"
        rw [List.length_map, sizeLine_eq]; omega
      dsimp only
      rw [show ((ck os (i + 1) : Nat) : Int) = (ck os i : Nat) + ((((ld os (i + 1)).map PyData.int).length : Nat) : Int) by rw [hck, List.length_map]; omega]
      exact SubL.sub (by repeat (first | exact trivial | refine ⟨rfl, ?_⟩))
  · dsimp only
    rw [List.length_map, hlen]
    have efl : (sg os).1.take ss.length = ss := by rw [← hss, List.take_of_length_le (Nat.le_refl _)]
    have e1 : ld os ss.length = ss.flatten.map (· % 128) := by rw [ld, efl]
    have e2 : ck os ss.length = plc 0 os := by rw [ck, efl, hss, csum_plc]
    rw [e1, e2]
    have hcat' := congrArg List.length hcat
    rw [List.length_append] at hcat'
    obtain ⟨fl, hfl⟩ : ∃ fl, fl = ss.flatten := ⟨_, rfl⟩
    rw [← hfl] at hcat hcat' ⊢
    have et : os.take fl.length = fl := by rw [← hcat, List.take_left]
    have ed : os.drop fl.length = (sg os).2 := by
      have := List.drop_left (l₁ := fl) (l₂ := (sg os).2)
      rwa [hcat] at this
    refine Do.cons (DoS.ite (b := false) (Te.cast (Te.cmp' (d₁ := .list ((fl.map (· % 128)).map .int)) (d₂ := .list ((fl.map (· % 128)).map .int)) rfl ?_ (Ev.cast (EvL.compA (mc := []) (g := fun n => .int (n.fmod 128)) int_inj fl rfl ⟨fun y b h => (by cases h), by decide⟩ (EvI.list ?_) ?_ (fun L' => by exact ⟨.inl rfl, (by intro h; cases h)⟩) rfl (by decide) (fun L' a ha => ?_)).ev ?_) (op_nei _ _)) (by simp)) (fun h => by cases h) (fun _ => Do.nil ?_))
    · walk_at "ev"
    · refine Ev.cast (d' := .list (dpick (os.map .int) none (some ((((fl.map (· % 128)).map PyData.int).length : Nat) : Int)) none)) ?_ (by rw [dpick_to, List.length_map, List.length_map, ← List.map_take, et])
      walk_at "ev"
      · rw [List.length_map, List.length_map, sizeLine_eq]; omega
      · exact hsz
      · nofun
    · rw [sizeLine_eq]; omega
    · walk_at "ev"
      decide
    · rw [List.map_map]
      congr 1
      refine List.map_congr_left fun n hn => ?_
      show PyData.int (n.fmod 128) = .int (n % 128)
      rw [Int.fmod_eq_emod_of_nonneg _ (by decide)]
    dsimp only
    refine Do.cons (DoS.ite (b := false) (Te.cast (Te.cmp' (d₁ := .list (([] : List Int).map .int)) (d₂ := .list (([] : List Int).map .int)) rfl (Ev.cast (EvL.comp1 (mc := []) (p := fun n => decide (n.fmod 128 < 64)) (g := .int) int_inj (sg os).2 rfl ⟨fun y b h => (by cases h), by decide⟩ (EvI.list ?_) ?_ (fun L' => by exact ⟨.inl rfl, (by intro h; cases h)⟩) rfl (by decide) (fun L' a ha => .inr ⟨_, rfl, ?_⟩) (fun L' a ha _ => ?_)).ev ?_) ?_ (op_nei _ _)) (by simp)) (fun h => by cases h) (fun _ => Do.nil ?_))
    · refine Ev.cast (d' := .list (dpick (os.map .int) (some ((((fl.map (· % 128)).map PyData.int).length : Nat) : Int)) none none)) ?_ (by rw [dpick_from, List.length_map, List.length_map, ← List.map_drop, ed])
      walk_at "ev"
      · rw [List.length_map, List.length_map, sizeLine_eq]; omega
      · exact hsz
      · nofun
    · rw [sizeLine_eq]; omega
    · walk_at "ev"
      decide
    · walk_at "ev"
    · congr 1
      have : ((sg os).2.filter fun n => decide (n.fmod 128 < 64)) = [] := by
        rw [List.filter_eq_nil_iff]
        intro n hn h
        have := hss'.2 n hn
        rw [Int.fmod_eq_emod_of_nonneg _ (by decide)] at h
        rw [isEnd] at this
        rw [this] at h; cases h
      rw [this]
    · walk_at "ev"
    dsimp only
    refine Do.cons (DoS.ret (d := .int (plc 0 os : Nat)) ?_ (.inl rfl))
    walk_at "ev"

section
variable {prog : Program} {w : World} {A : Around} {E : Value → Shared → Prop} {s : Shared} {a : Addr} {vs : List Value}
theorem list_sort_run {n : Nat} {P : PySem.Fin → Shared → Prop} {R : Array Nat → Prop} (ho : s.heap.get? a = some (seqObj "list" vs.toArray n)) (h2 : 2 ≤ vs.length) (h64 : vs.length < 64)
    (ask : ∀ h', (∀ b o, b ≠ a → s.heap.get? b = some o → h'.get? b = some o) →
      wpAny (model prog w) A (keyKind' vs.toArray) (fun κ s' => (kas_sort vs.length).kasWp (kas_ask prog w A κ vs) (fun p s'' => (∃ tk, s'' = { s with heap := h', toks := tk }) ∧ R p) s') (fun _ _ => False) { s with heap := h' })
    (fin : ∀ p h' c tk, R p → (∀ b o, b ≠ a → s.heap.get? b = some o → h'.get? b = some o) → h'.get? a = some (seqObj "list" (List.toArray (p.toList.map fun i => vs.getD i Value.none)) c) → P (.done (.ret .none)) { s with heap := h', toks := tk }) :
    wpAny (model prog w) A (Builtin.«list.sort» ⟨[.ref a], []⟩) P E s := by
  have ha : a < s.heap.objs.size := Heap.lt_size ho
  have s1 := Heap.SameBut.update s.heap a (Obj.mapSeq fun _ => (#[] : Array Value))
  obtain ⟨e1, ho1⟩ : ∃ e1, (s.heap.update a (Obj.mapSeq fun _ => (#[] : Array Value))).get? a = some (seqObj "list" #[] e1) := ⟨_, get?_update_seq ho fun _ => #[]⟩
  have keep : ∀ b o, b ≠ a → s.heap.get? b = some o → (((s.heap.update a (Obj.mapSeq fun _ => (#[] : Array Value))).push (seqObj "tuple" vs.toArray 0)).push (seqObj "list" #[] 0)).get? b = some o := fun b o hb e =>
    Heap.get?_push_of_some _ (Heap.get?_push_of_some _ ((s1.2 b hb).trans e))
  have ask1 := ask _ keep
  have hoa : (((s.heap.update a (Obj.mapSeq fun _ => (#[] : Array Value))).push (seqObj "tuple" vs.toArray 0)).push (seqObj "list" #[] 0)).get? a = some (seqObj "list" #[] e1) := Heap.get?_push_of_some _ (Heap.get?_push_of_some _ ho1)
  rw [list_sort_plain]
  refine wpAny_bind (listItems_at ho rfl ?_)
  refine wpAny_bind (listUpdate_at ho rfl ?_ (by rw [List.size_toArray, sizeLine_eq]; omega) (Nat.zero_le _))
  refine wpAny_bind (seqEpoch_at ho1 rfl ?_)
  refine wpAny_bind (wpAny_newTuple ?_ (by show vs.length ≤ _; rw [sizeLine_eq]; omega))
  refine wpAny_bind (wpAny_newList ?_ (Nat.zero_le _))
  refine wpAny_holding ?_
  show wpAny (model prog w) A _ P E { s with heap := ((s.heap.update a (Obj.mapSeq fun _ => (#[] : Array Value))).push (seqObj "tuple" vs.toArray 0)).push (seqObj "list" #[] 0) }
  dsimp only
  have hn2 : ¬ vs.toArray.size < 2 := by rw [List.size_toArray]; omega
  rw [if_neg hn2, if_neg hn2]
  refine wpAny_bind (wpAny_mono ask1 (fun κ s0 hk => ?_) fun _ _ x => x.elim)
  refine wpAny_bind (wpAny_mono (kat_run (Q := fun st' s' => ∃ p : Array Nat, p.size = vs.length ∧ arrOf st' = p.map (kas_item (vs.toArray.zip vs.toArray)) ∧ failedOf st' = none ∧ ((∃ tk, s' = { s with heap := ((s.heap.update a (Obj.mapSeq fun _ => (#[] : Array Value))).push (seqObj "tuple" vs.toArray 0)).push (seqObj "list" #[] 0), toks := tk }) ∧ R p))
    rfl h2 h64 (fun p' st' s' a1 a2 a3 a4 => ⟨p', a1, a2, a3, a4⟩) hk) ?_ fun _ _ e => e)
  rintro ⟨⟨⟩, st'⟩ s' ⟨p, hp, har, hf, ⟨tk, rfl⟩, hR⟩
  dsimp only
  have hout := kat_snds rfl har
  have hsz : (List.toArray (p.toList.map fun i => vs.getD i Value.none)).size = vs.length := by rw [List.size_toArray, List.length_map, Array.length_toList, hp]
  rw [hout]
  refine wpAny_bind (seqEpoch_at hoa rfl ?_)
  refine wpAny_bind (listUpdate_at hoa rfl ?_ (Nat.zero_le _) (Nat.le_trans (Nat.le_of_eq hsz) (by rw [sizeLine_eq]; omega)))
  rw [hf]
  simp only [bne_self_eq_false, Bool.false_eq_true, if_false]
  have s2 := Heap.SameBut.update (((s.heap.update a (Obj.mapSeq fun _ => (#[] : Array Value))).push (seqObj "tuple" vs.toArray 0)).push (seqObj "list" #[] 0)) a (Obj.mapSeq fun _ => List.toArray (p.toList.map fun i => vs.getD i Value.none))
  exact wpAny_pure (fin p _ _ tk hR (fun b o hb e => (s2.2 b hb).trans (keep b o hb e)) (get?_update_seq hoa fun _ => List.toArray (p.toList.map fun i => vs.getD i Value.none)))
theorem sorted_run {l : Addr} {Q : Value → Shared → Prop} {R : Array Nat → Prop} (hl : s.heap.IsList l vs.toArray) (h2 : 2 ≤ vs.length) (h64 : vs.length < 64)
    (ask : ∀ h', (∀ b o, s.heap.get? b = some o → h'.get? b = some o) →
      wpAny (model prog w) A.in1.in1 (keyKind' vs.toArray) (fun κ s' => (kas_sort vs.length).kasWp (kas_ask prog w A.in1.in1 κ vs) (fun p s'' => (∃ tk, s'' = { s with heap := h', toks := tk }) ∧ R p) s') (fun _ _ => False) { s with heap := h' })
    (fin : ∀ p h' D c tk, R p → s.heap.get? D = none → (∀ b o, s.heap.get? b = some o → h'.get? b = some o) → h'.get? D = some (seqObj "list" (List.toArray (p.toList.map fun i => vs.getD i Value.none)) c) → Q (.ref D) { s with heap := h', toks := tk }) :
    wpAny (model prog w) A (PySem.call (.builtin "sorted") [.ref l]) Q E s := by
  refine Calls.call_function_entry kind_sorted plain_sorted entry_sorted (args_sorted1 _) ?_
  unfold Builtin.«sorted»
  refine wpAny_bind (m := checkCount "sorted" 1 1 _) (wpAny_pure ?_)
  refine wpAny_bind (collect_list hl ?_ (by rw [sizeLine_eq]; omega))
  refine wpAny_bind (wpAny_newList ?_ (by rw [sizeLine_eq]; omega))
  have hsz : ((s.heap.push (seqObj "list" #[] 0)).update s.heap.objs.size (Obj.mapSeq (· ++ vs.toArray))).objs.size = s.heap.objs.size + 1 := by
    rw [Heap.size_update, size_push']
  have hoL : (((s.heap.push (seqObj "list" #[] 0)).update s.heap.objs.size (Obj.mapSeq (· ++ vs.toArray))).push (seqObj "list" vs.toArray 0)).get? (s.heap.objs.size + 1) = some (seqObj "list" vs.toArray 0) := by
    rw [← hsz]; exact Heap.get?_push_size _ rfl
  have keep : ∀ b o, s.heap.get? b = some o → (((s.heap.push (seqObj "list" #[] 0)).update s.heap.objs.size (Obj.mapSeq (· ++ vs.toArray))).push (seqObj "list" vs.toArray 0)).get? b = some o := fun b o q => by
    have hlt : b < s.heap.objs.size := Heap.lt_size q
    rw [Heap.get?_push_ne _ _ _ (by rw [hsz]; exact Nat.ne_of_lt (Nat.lt_succ_of_lt hlt)), Heap.get?_update_ne _ _ _ _ (Nat.ne_of_lt hlt), Heap.get?_push_ne _ _ _ (Nat.ne_of_lt hlt)]
    exact q
  have hne : ∀ b o, s.heap.get? b = some o → b ≠ s.heap.objs.size + 1 := fun b o e => Nat.ne_of_lt (Nat.lt_succ_of_lt (Heap.lt_size e))
  show wpAny _ _ _ _ _ { s with heap := ((s.heap.push (seqObj "list" #[] 0)).update s.heap.objs.size (Obj.mapSeq (· ++ vs.toArray))).push (seqObj "list" vs.toArray 0) }
  rw [hsz]
  refine wpAny_bind (wpAny_holding (wpAny_call_entry slot_list_sort ⟨_, hoL, rfl⟩ entry_list_sort ?body (args_list_sort _)))
  case body =>
    refine list_sort_run (R := R) (s := { s with heap := ((s.heap.push (seqObj "list" #[] 0)).update s.heap.objs.size (Obj.mapSeq (· ++ vs.toArray))).push (seqObj "list" vs.toArray 0) }) hoL h2 h64 (fun h' kp => ?_) fun p h' c tk hR kp e => ?_
    · exact ask h' fun b o e => kp b o (hne b o e) (keep b o e)
    · exact ⟨_, rfl, wpAny_pure ⟨_, rfl, fin p h' _ c tk hR (Heap.get?_none_of_le (Nat.le_succ _)) (fun b o e => kp b o (hne b o e) (keep b o e)) e⟩⟩
end

noncomputable def runO {α : Type} (f : Nat → Nat → Option Bool) : KasT α → Option α
  | .ret a => some a
  | .ask i j k => match f i j with | some b => runO f (k b) | none => none
theorem runO_wp {α : Type} {cmp : Nat → Nat → (Bool → Shared → Prop) → Shared → Prop} {f : Nat → Nat → Option Bool} {Ok : Shared → Prop} (hcmp : ∀ i j b C s, Ok s → f i j = some b → (∀ s', Ok s' → C b s') → cmp i j C s) {Q : α → Shared → Prop} : ∀ (t : KasT α) (s : Shared) (p : α), Ok s → runO f t = some p → (∀ s', Ok s' → Q p s') → t.kasWp cmp Q s
  | .ret a, s, p, hs, h, hq => by cases h; exact hq s hs
  | .ask i j k, s, p, hs, h, hq => by
    rw [runO] at h
    cases e : f i j with
    | none => rw [e] at h; cases h
    | some b => rw [e] at h; exact hcmp i j b _ s hs e fun s' hs' => runO_wp hcmp (k b) s' p hs' h hq
noncomputable abbrev tupd (t : Int × List Int) : PyData := .tuple [.int t.1, .list (t.2.map .int)]
noncomputable def ltO (ts : List (Int × List Int)) (i j : Nat) : Option Bool := match ts[i]?, ts[j]? with
  | some a, some b => if a.1 = b.1 then none else some (decide (a.1 < b.1))
  | _, _ => none
noncomputable def sortP (ts : List (Int × List Int)) : Option (Array Nat) := runO (ltO ts) (kas_sort ts.length)
theorem RepG.getD {O : List Addr} {h : Heap} {vs : List Value} {ds : List PyData} (r : Reps O h vs ds) {i : Nat} {d : PyData} (e : ds[i]? = some d) : Rep O h (vs.getD i Value.none) d := by
  obtain ⟨v, e1, r1⟩ := RepG.get r i d rfl e
  rw [List.getD_eq_getElem?_getD, e1]; exact r1
theorem Rep.tupAt {O : List Addr} {h : Heap} {v : Value} {t : Int × List Int} (r : Rep O h v (tupd t)) : ∃ a n u y, v = .ref a ∧ h.get? a = some { cls := .type "tuple", data := .seq #[.int t.1 u, y] n } := by
  exact r.tup_ fun a n vs hn ho hr => (hr.two_ (P := fun vs => h.get? a = some { cls := .type "tuple", data := .seq (List.toArray vs) n } → _) fun v u r1 r2 => r1.int_ (P := fun v => h.get? a = some { cls := .type "tuple", data := .seq (List.toArray [v, u]) n } → _) fun t ho => ⟨_, _, _, _, rfl, ho⟩) ho
theorem tups_of {O : List Addr} {h : Heap} : ∀ {ts : List (Int × List Int)} {vs : List Value}, Reps O h vs (ts.map tupd) → ∃ fs, KatTups h vs fs ∧ fs.length = ts.length ∧ ∀ v ∈ fs, ∃ n u, v = .int n u
  | [], _, r => r.nil_ ⟨[], .nil, rfl, nofun⟩
  | t :: ts, _, r => by
    refine r.cons_ fun v vs' r1 r2 => ?_
    · obtain ⟨fs, h1, h2, h3⟩ := tups_of r2
      obtain ⟨a, n, u, y, rfl, ho⟩ := Rep.tupAt r1
      exact ⟨.int t.1 u :: fs, .cons ho rfl rfl rfl h1, by rw [List.length_cons, List.length_cons, h2], fun v hv => (List.mem_cons.mp hv).elim (fun z => ⟨_, _, z⟩) (h3 v)⟩
theorem call_sorted {C : Cfg} {k : Nat} {ts : List (Int × List Int)} {p : Array Nat} (h2 : 2 ≤ ts.length) (h64 : ts.length < 64) (hrun : sortP ts = some p) (hp : ∀ i ∈ p.toList, i < ts.length) :
    Opn C k (fun vs => PySem.call (.builtin "sorted") vs) [.list (ts.map tupd)] (.list ((p.toList.map fun i => ts.getD i (0, [])).map tupd)) := fun A O s vs Q E g av R r q => by
  refine r.one_ fun _ h1 => h1.list_ fun _ _ ws hn ho hr => ?_
  · · have hlen : ws.length = ts.length := by have := hr.length; rwa [List.length_map] at this
      refine sorted_run (R := fun p' => p' = p) (vs := ws) ⟨_, ho, rfl, _, rfl⟩ (by omega) (by omega) (fun h' keep => ?_) fun p' h' D c tk hp' hD keep e => ?_
      · have hr' : Reps O h' ws (ts.map tupd) := hr.moved fun a o xs n ha e _ => ⟨keep _ _ e, ha⟩
        obtain ⟨fs, t1, t2, t3⟩ := tups_of hr'
        refine kat_kind (T := .type "int") t1 (by omega) (fun v hv => by obtain ⟨n, u, rfl⟩ := t3 v hv; exact Looks.of_pure rfl) (by decide +kernel) ?_
        rw [hlen]
        refine runO_wp (f := ltO ts) (Ok := fun s' => ∃ tk, s' = { s with heap := h', toks := tk }) ?_ _ _ p ⟨s.toks, rfl⟩ hrun fun s' hs' => ⟨hs', rfl⟩
        rintro i j b K _ ⟨tk, rfl⟩ hf hk
        unfold ltO at hf
        cases e1 : ts[i]? with
        | none => rw [e1] at hf; cases hf
        | some ti =>
          cases e2 : ts[j]? with
          | none => rw [e1, e2] at hf; cases hf
          | some tj =>
            rw [e1, e2] at hf
            dsimp only at hf
            by_cases h0 : ti.1 = tj.1
            · rw [if_pos h0] at hf; cases hf
            · rw [if_neg h0] at hf; cases hf
              obtain ⟨ai, ni, ui, yi, ei, hoi⟩ := Rep.tupAt (RepG.getD hr' (i := i) (by rw [List.getElem?_map, e1]; rfl))
              obtain ⟨aj, nj, uj, yj, ej, hoj⟩ := Rep.tupAt (RepG.getD hr' (i := j) (by rw [List.getElem?_map, e2]; rfl))
              unfold kas_ask
              rw [ei, ej]
              refine kat_lt (s := { s with heap := h', toks := tk }) hoi rfl hoj rfl (kat_cons (wpAny_eqBool_int ?_))
              rw [show (ti.1 == tj.1) = false by simpa using h0]
              refine kat_no ?_
              have hb : ((Value.type "int" != Value.type "tuple") && (0 : Nat) == 0) = true := by decide +kernel
              rw [hb]
              exact oneLt_int (hk _ ⟨tk, rfl⟩)
      · subst hp'
        refine q _ h' tk (.of_keeps keep) (g.keepAll keep) (.list _ (fun z => ?_) e ?_)
        · obtain ⟨_, o, eo⟩ := av.2 _ z
          rw [hD] at eo; cases eo
        · have hr' : Reps O h' ws (ts.map tupd) := hr.moved fun a o xs n ha e _ => ⟨keep _ _ e, ha⟩
          have go : ∀ l : List Nat, (∀ i ∈ l, i < ts.length) → Reps O h' (l.map fun i => ws.getD i Value.none) ((l.map fun i => ts.getD i (0, [])).map tupd) := fun l => by
            induction l with
            | nil => intro _; exact .nil
            | cons i l ih =>
              intro hl
              have hi := hl i (.head _)
              refine .cons (RepG.getD hr' ?_) (ih fun x hx => hl x (.tail _ hx))
              show (ts.map tupd)[i]? = some (tupd (ts.getD i (0, [])))
              rw [List.getElem?_map, List.getD_eq_getElem?_getD, List.getElem?_eq_getElem hi]; rfl
          exact go p'.toList hp

noncomputable def cs (bs : List Int) : Str := ⟨(bs.map Int.toNat).toArray⟩
noncomputable abbrev eps : Str := Str.ofString ""
noncomputable def cJoin (t : List Int) : Str := Txt.join dots (t.map fun b => cs [b])
noncomputable def cLoose (t : List Int) : Str := (dots ++ cJoin t) ++ dots
noncomputable def cHeld (fr bk : Str) (t : List Int) : Str := (fr ++ cJoin t) ++ bk
noncomputable def cOther (t : List Int) : Str := cs (t.map fun b => 1 - b)
noncomputable def cGap (t : List Int) (p : Nat) : Str := (Txt.slice (cs t) none (some (p : Int)) ++ dots) ++ Txt.slice (cs t) (some (p : Int)) none
noncomputable def cShared (t : List Int) (p : Nat) : Str := (Txt.slice (cs t) none (some ((p : Int) + 1)) ++ dots) ++ Txt.slice (cs t) (some (p : Int)) none
noncomputable def bitsOf (n sz : Nat) : List Int := (List.range sz).map fun k => Builtin.bitAnd ((n : Int).fdiv (2 ^ k)) 1
/-- the sum of the places of the ones -/
noncomputable def vt (n : Nat) : List Int → Nat
  | [] => 0
  | b :: r => (if b = 1 then n + 1 else 0) + vt (n + 1) r
noncomputable def said (t : List Int) (n : Nat) : Bool := ematch (cLoose t) (cs (bitsOf n (t.length + 1)))
noncomputable def found (t : List Int) : List (Int × List Int) := ((List.range (2 ^ (t.length + 1))).filter (said t)).map fun n => (((vt 0 (bitsOf n (t.length + 1)) : Nat) : Int), bitsOf n (t.length + 1))
noncomputable def chkEm (want got : Str) (b : Bool) : Bool := emOk want got && (ematch want got == b)
noncomputable def frOf (n : Nat) : Str := if n % 3 = 1 then dots else eps
noncomputable def bkOf (n : Nat) : Str := if n % 3 = 0 then dots else eps
noncomputable def alike (j : Nat) (t bits : List Int) : Bool := ((frOf j != eps) || (bits.headD 0 == t.headD 0)) && ((bkOf j != eps) || (bits.getLastD 0 == t.getLastD 0))
noncomputable def okNum (t : List Int) (n : Nat) : Bool :=
  let bits := bitsOf n (t.length + 1)
  emOk (cLoose t) (cs bits) && ((List.range 3).all fun j => chkEm (cHeld (frOf j) (bkOf j) t) (cs bits) (said t n && alike j t bits)) &&
    (!said t n || (chkEm (cs t) (cs bits) false && (List.range (t.length + 1)).all fun p => chkEm (cGap t p) (cs bits) (decide (bits.take p ++ bits.drop (p + 1) = t))))
noncomputable def okTxt (t : List Int) : Bool :=
  ((List.range (t.length + 1)).all fun p => chkEm (cGap t p) (cs t) true) && chkEm (cs t) (cs t) true && chkEm (cLoose t) (cOther t ++ cs t) true && chkEm (cLoose t) (cs t ++ cOther t) true &&
  chkEm (cOther t) (cs t) false && chkEm (cs t ++ cOther t) (cs t) false && chkEm (cOther t ++ cs t) (cs t) false &&
  (List.range t.length).all fun p => chkEm (cShared t p) (cs t) false && chkEm ((dots ++ cShared t p) ++ dots) (cs t) false
noncomputable def own (t : List Int) : Nat := vt 0 t
noncomputable def rests (t : List Int) : List (Int × List Int) := (found t).map fun c => (c.1.fmod ((t.length : Int) + 2), c.2)
noncomputable def okSort (t : List Int) : Bool :=
  match sortP (rests t) with
  | none => false
  | some p => (p.toList.all fun i => decide (i < (rests t).length)) && decide ((p.toList.map fun i => (rests t).getD i (0, [])) = (List.range (t.length + 2)).map fun (r : Nat) => ((r : Int), mend t (((r : Int) - own t).fmod ((t.length : Int) + 2))))
noncomputable def okCount (t : List Int) : Bool :=
  decide ((found t).length = t.length + 2) && decide (((List.range 16).map fun (c : Nat) => (((((found t).map (·.1)).count (c : Int) : Nat)) : Int)) = (List.range 16).map fun c => if own t ≤ c ∧ c < own t + (t.length + 2) then 1 else 0) && decide (own t + (t.length + 2) ≤ 16) && decide (own t ≤ 10)
noncomputable def okNums (t : List Int) : Bool := (List.range (2 ^ (t.length + 1))).all (okNum t)
noncomputable def okTape (t : List Int) : Bool := okTxt t && okNums t && okSort t && okCount t
noncomputable def tapes : List (List Int) := [[0, 0], [1, 0], [0, 1], [1, 1], [0, 0, 0], [1, 0, 0], [0, 1, 0], [1, 1, 0], [0, 0, 1], [1, 0, 1], [0, 1, 1], [1, 1, 1], [0, 0, 0, 0], [1, 0, 0, 0], [0, 1, 0, 0], [1, 1, 0, 0], [0, 0, 1, 0], [1, 0, 1, 0], [0, 1, 1, 0], [1, 1, 1, 0], [0, 0, 0, 1], [1, 0, 0, 1], [0, 1, 0, 1], [1, 1, 0, 1], [0, 0, 1, 1], [1, 0, 1, 1], [0, 1, 1, 1], [1, 1, 1, 1]]
theorem okTape_of {t : List Int} (a : okTxt t = true) (b : okNums t = true) (c : okSort t = true) (d : okCount t = true) : okTape t = true := by unfold okTape; rw [a, b, c, d]; rfl
noncomputable def okSortF (t : List Int) (F : List (Int × List Int)) : Bool :=
  match sortP (F.map fun c => (c.1.fmod ((t.length : Int) + 2), c.2)) with
  | none => false
  | some p => (p.toList.all fun i => decide (i < (F.map fun c => (c.1.fmod ((t.length : Int) + 2), c.2)).length)) && decide ((p.toList.map fun i => (F.map fun c => (c.1.fmod ((t.length : Int) + 2), c.2)).getD i (0, [])) = (List.range (t.length + 2)).map fun (r : Nat) => ((r : Int), mend t (((r : Int) - own t).fmod ((t.length : Int) + 2))))
noncomputable def okCountF (t : List Int) (F : List (Int × List Int)) : Bool :=
  decide (F.length = t.length + 2) && decide (((List.range 16).map fun (c : Nat) => ((((F.map (·.1)).count (c : Int) : Nat)) : Int)) = (List.range 16).map fun c => if own t ≤ c ∧ c < own t + (t.length + 2) then 1 else 0) && decide (own t + (t.length + 2) ≤ 16) && decide (own t ≤ 10)
theorem okSort_of {t : List Int} {F : List (Int × List Int)} (h : found t = F) (e : okSortF t F = true) : okSort t = true := by
  subst h; exact e
theorem okCount_of {t : List Int} {F : List (Int × List Int)} (h : found t = F) (e : okCountF t F = true) : okCount t = true := by
  subst h; exact e
theorem okA0 : okTxt [0, 0] = true := by decide +kernel
theorem okB0 : okNums [0, 0] = true := by decide +kernel
theorem okF0 : found [0, 0] = [(0, [0, 0, 0]), (1, [1, 0, 0]), (2, [0, 1, 0]), (3, [0, 0, 1])] := by decide +kernel
theorem okC0 : okSort [0, 0] = true := okSort_of okF0 (by decide +kernel)
theorem okD0 : okCount [0, 0] = true := okCount_of okF0 (by decide +kernel)
theorem okA1 : okTxt [1, 0] = true := by decide +kernel
theorem okB1 : okNums [1, 0] = true := by decide +kernel
theorem okF1 : found [1, 0] = [(1, [1, 0, 0]), (2, [0, 1, 0]), (3, [1, 1, 0]), (4, [1, 0, 1])] := by decide +kernel
theorem okC1 : okSort [1, 0] = true := okSort_of okF1 (by decide +kernel)
theorem okD1 : okCount [1, 0] = true := okCount_of okF1 (by decide +kernel)
theorem okA2 : okTxt [0, 1] = true := by decide +kernel
theorem okB2 : okNums [0, 1] = true := by decide +kernel
theorem okF2 : found [0, 1] = [(2, [0, 1, 0]), (3, [0, 0, 1]), (4, [1, 0, 1]), (5, [0, 1, 1])] := by decide +kernel
theorem okC2 : okSort [0, 1] = true := okSort_of okF2 (by decide +kernel)
theorem okD2 : okCount [0, 1] = true := okCount_of okF2 (by decide +kernel)
theorem okA3 : okTxt [1, 1] = true := by decide +kernel
theorem okB3 : okNums [1, 1] = true := by decide +kernel
theorem okF3 : found [1, 1] = [(3, [1, 1, 0]), (4, [1, 0, 1]), (5, [0, 1, 1]), (6, [1, 1, 1])] := by decide +kernel
theorem okC3 : okSort [1, 1] = true := okSort_of okF3 (by decide +kernel)
theorem okD3 : okCount [1, 1] = true := okCount_of okF3 (by decide +kernel)
theorem okA4 : okTxt [0, 0, 0] = true := by decide +kernel
theorem okB4 : okNums [0, 0, 0] = true := by decide +kernel
theorem okF4 : found [0, 0, 0] = [(0, [0, 0, 0, 0]), (1, [1, 0, 0, 0]), (2, [0, 1, 0, 0]), (3, [0, 0, 1, 0]), (4, [0, 0, 0, 1])] := by decide +kernel
theorem okC4 : okSort [0, 0, 0] = true := okSort_of okF4 (by decide +kernel)
theorem okD4 : okCount [0, 0, 0] = true := okCount_of okF4 (by decide +kernel)
theorem okA5 : okTxt [1, 0, 0] = true := by decide +kernel
theorem okB5 : okNums [1, 0, 0] = true := by decide +kernel
theorem okF5 : found [1, 0, 0] = [(1, [1, 0, 0, 0]), (2, [0, 1, 0, 0]), (3, [1, 1, 0, 0]), (4, [1, 0, 1, 0]), (5, [1, 0, 0, 1])] := by decide +kernel
theorem okC5 : okSort [1, 0, 0] = true := okSort_of okF5 (by decide +kernel)
theorem okD5 : okCount [1, 0, 0] = true := okCount_of okF5 (by decide +kernel)
theorem okA6 : okTxt [0, 1, 0] = true := by decide +kernel
theorem okB6 : okNums [0, 1, 0] = true := by decide +kernel
theorem okF6 : found [0, 1, 0] = [(2, [0, 1, 0, 0]), (3, [0, 0, 1, 0]), (4, [1, 0, 1, 0]), (5, [0, 1, 1, 0]), (6, [0, 1, 0, 1])] := by decide +kernel
theorem okC6 : okSort [0, 1, 0] = true := okSort_of okF6 (by decide +kernel)
theorem okD6 : okCount [0, 1, 0] = true := okCount_of okF6 (by decide +kernel)
theorem okA7 : okTxt [1, 1, 0] = true := by decide +kernel
theorem okB7 : okNums [1, 1, 0] = true := by decide +kernel
theorem okF7 : found [1, 1, 0] = [(3, [1, 1, 0, 0]), (4, [1, 0, 1, 0]), (5, [0, 1, 1, 0]), (6, [1, 1, 1, 0]), (7, [1, 1, 0, 1])] := by decide +kernel
theorem okC7 : okSort [1, 1, 0] = true := okSort_of okF7 (by decide +kernel)
theorem okD7 : okCount [1, 1, 0] = true := okCount_of okF7 (by decide +kernel)
theorem okA8 : okTxt [0, 0, 1] = true := by decide +kernel
theorem okB8 : okNums [0, 0, 1] = true := by decide +kernel
theorem okF8 : found [0, 0, 1] = [(3, [0, 0, 1, 0]), (4, [0, 0, 0, 1]), (5, [1, 0, 0, 1]), (6, [0, 1, 0, 1]), (7, [0, 0, 1, 1])] := by decide +kernel
theorem okC8 : okSort [0, 0, 1] = true := okSort_of okF8 (by decide +kernel)
theorem okD8 : okCount [0, 0, 1] = true := okCount_of okF8 (by decide +kernel)
theorem okA9 : okTxt [1, 0, 1] = true := by decide +kernel
theorem okB9 : okNums [1, 0, 1] = true := by decide +kernel
theorem okF9 : found [1, 0, 1] = [(4, [1, 0, 1, 0]), (5, [1, 0, 0, 1]), (6, [0, 1, 0, 1]), (7, [1, 1, 0, 1]), (8, [1, 0, 1, 1])] := by decide +kernel
theorem okC9 : okSort [1, 0, 1] = true := okSort_of okF9 (by decide +kernel)
theorem okD9 : okCount [1, 0, 1] = true := okCount_of okF9 (by decide +kernel)
theorem okA10 : okTxt [0, 1, 1] = true := by decide +kernel
theorem okB10 : okNums [0, 1, 1] = true := by decide +kernel
theorem okF10 : found [0, 1, 1] = [(5, [0, 1, 1, 0]), (6, [0, 1, 0, 1]), (7, [0, 0, 1, 1]), (8, [1, 0, 1, 1]), (9, [0, 1, 1, 1])] := by decide +kernel
theorem okC10 : okSort [0, 1, 1] = true := okSort_of okF10 (by decide +kernel)
theorem okD10 : okCount [0, 1, 1] = true := okCount_of okF10 (by decide +kernel)
theorem okA11 : okTxt [1, 1, 1] = true := by decide +kernel
theorem okB11 : okNums [1, 1, 1] = true := by decide +kernel
theorem okF11 : found [1, 1, 1] = [(6, [1, 1, 1, 0]), (7, [1, 1, 0, 1]), (8, [1, 0, 1, 1]), (9, [0, 1, 1, 1]), (10, [1, 1, 1, 1])] := by decide +kernel
theorem okC11 : okSort [1, 1, 1] = true := okSort_of okF11 (by decide +kernel)
theorem okD11 : okCount [1, 1, 1] = true := okCount_of okF11 (by decide +kernel)
theorem okA12 : okTxt [0, 0, 0, 0] = true := by decide +kernel
theorem okB12 : okNums [0, 0, 0, 0] = true := by decide +kernel
theorem okF12 : found [0, 0, 0, 0] = [(0, [0, 0, 0, 0, 0]), (1, [1, 0, 0, 0, 0]), (2, [0, 1, 0, 0, 0]), (3, [0, 0, 1, 0, 0]), (4, [0, 0, 0, 1, 0]), (5, [0, 0, 0, 0, 1])] := by decide +kernel
theorem okC12 : okSort [0, 0, 0, 0] = true := okSort_of okF12 (by decide +kernel)
theorem okD12 : okCount [0, 0, 0, 0] = true := okCount_of okF12 (by decide +kernel)
theorem okA13 : okTxt [1, 0, 0, 0] = true := by decide +kernel
theorem okB13 : okNums [1, 0, 0, 0] = true := by decide +kernel
theorem okF13 : found [1, 0, 0, 0] = [(1, [1, 0, 0, 0, 0]), (2, [0, 1, 0, 0, 0]), (3, [1, 1, 0, 0, 0]), (4, [1, 0, 1, 0, 0]), (5, [1, 0, 0, 1, 0]), (6, [1, 0, 0, 0, 1])] := by decide +kernel
theorem okC13 : okSort [1, 0, 0, 0] = true := okSort_of okF13 (by decide +kernel)
theorem okD13 : okCount [1, 0, 0, 0] = true := okCount_of okF13 (by decide +kernel)
theorem okA14 : okTxt [0, 1, 0, 0] = true := by decide +kernel
theorem okB14 : okNums [0, 1, 0, 0] = true := by decide +kernel
theorem okF14 : found [0, 1, 0, 0] = [(2, [0, 1, 0, 0, 0]), (3, [0, 0, 1, 0, 0]), (4, [1, 0, 1, 0, 0]), (5, [0, 1, 1, 0, 0]), (6, [0, 1, 0, 1, 0]), (7, [0, 1, 0, 0, 1])] := by decide +kernel
theorem okC14 : okSort [0, 1, 0, 0] = true := okSort_of okF14 (by decide +kernel)
theorem okD14 : okCount [0, 1, 0, 0] = true := okCount_of okF14 (by decide +kernel)
theorem okA15 : okTxt [1, 1, 0, 0] = true := by decide +kernel
theorem okB15 : okNums [1, 1, 0, 0] = true := by decide +kernel
theorem okF15 : found [1, 1, 0, 0] = [(3, [1, 1, 0, 0, 0]), (4, [1, 0, 1, 0, 0]), (5, [0, 1, 1, 0, 0]), (6, [1, 1, 1, 0, 0]), (7, [1, 1, 0, 1, 0]), (8, [1, 1, 0, 0, 1])] := by decide +kernel
theorem okC15 : okSort [1, 1, 0, 0] = true := okSort_of okF15 (by decide +kernel)
theorem okD15 : okCount [1, 1, 0, 0] = true := okCount_of okF15 (by decide +kernel)
theorem okA16 : okTxt [0, 0, 1, 0] = true := by decide +kernel
theorem okB16 : okNums [0, 0, 1, 0] = true := by decide +kernel
theorem okF16 : found [0, 0, 1, 0] = [(3, [0, 0, 1, 0, 0]), (4, [0, 0, 0, 1, 0]), (5, [1, 0, 0, 1, 0]), (6, [0, 1, 0, 1, 0]), (7, [0, 0, 1, 1, 0]), (8, [0, 0, 1, 0, 1])] := by decide +kernel
theorem okC16 : okSort [0, 0, 1, 0] = true := okSort_of okF16 (by decide +kernel)
theorem okD16 : okCount [0, 0, 1, 0] = true := okCount_of okF16 (by decide +kernel)
theorem okA17 : okTxt [1, 0, 1, 0] = true := by decide +kernel
theorem okB17 : okNums [1, 0, 1, 0] = true := by decide +kernel
theorem okF17 : found [1, 0, 1, 0] = [(4, [1, 0, 1, 0, 0]), (5, [1, 0, 0, 1, 0]), (6, [0, 1, 0, 1, 0]), (7, [1, 1, 0, 1, 0]), (8, [1, 0, 1, 1, 0]), (9, [1, 0, 1, 0, 1])] := by decide +kernel
theorem okC17 : okSort [1, 0, 1, 0] = true := okSort_of okF17 (by decide +kernel)
theorem okD17 : okCount [1, 0, 1, 0] = true := okCount_of okF17 (by decide +kernel)
theorem okA18 : okTxt [0, 1, 1, 0] = true := by decide +kernel
theorem okB18 : okNums [0, 1, 1, 0] = true := by decide +kernel
theorem okF18 : found [0, 1, 1, 0] = [(5, [0, 1, 1, 0, 0]), (6, [0, 1, 0, 1, 0]), (7, [0, 0, 1, 1, 0]), (8, [1, 0, 1, 1, 0]), (9, [0, 1, 1, 1, 0]), (10, [0, 1, 1, 0, 1])] := by decide +kernel
theorem okC18 : okSort [0, 1, 1, 0] = true := okSort_of okF18 (by decide +kernel)
theorem okD18 : okCount [0, 1, 1, 0] = true := okCount_of okF18 (by decide +kernel)
theorem okA19 : okTxt [1, 1, 1, 0] = true := by decide +kernel
theorem okB19 : okNums [1, 1, 1, 0] = true := by decide +kernel
theorem okF19 : found [1, 1, 1, 0] = [(6, [1, 1, 1, 0, 0]), (7, [1, 1, 0, 1, 0]), (8, [1, 0, 1, 1, 0]), (9, [0, 1, 1, 1, 0]), (10, [1, 1, 1, 1, 0]), (11, [1, 1, 1, 0, 1])] := by decide +kernel
theorem okC19 : okSort [1, 1, 1, 0] = true := okSort_of okF19 (by decide +kernel)
theorem okD19 : okCount [1, 1, 1, 0] = true := okCount_of okF19 (by decide +kernel)
theorem okA20 : okTxt [0, 0, 0, 1] = true := by decide +kernel
theorem okB20 : okNums [0, 0, 0, 1] = true := by decide +kernel
theorem okF20 : found [0, 0, 0, 1] = [(4, [0, 0, 0, 1, 0]), (5, [0, 0, 0, 0, 1]), (6, [1, 0, 0, 0, 1]), (7, [0, 1, 0, 0, 1]), (8, [0, 0, 1, 0, 1]), (9, [0, 0, 0, 1, 1])] := by decide +kernel
theorem okC20 : okSort [0, 0, 0, 1] = true := okSort_of okF20 (by decide +kernel)
theorem okD20 : okCount [0, 0, 0, 1] = true := okCount_of okF20 (by decide +kernel)
theorem okA21 : okTxt [1, 0, 0, 1] = true := by decide +kernel
theorem okB21 : okNums [1, 0, 0, 1] = true := by decide +kernel
theorem okF21 : found [1, 0, 0, 1] = [(5, [1, 0, 0, 1, 0]), (6, [1, 0, 0, 0, 1]), (7, [0, 1, 0, 0, 1]), (8, [1, 1, 0, 0, 1]), (9, [1, 0, 1, 0, 1]), (10, [1, 0, 0, 1, 1])] := by decide +kernel
theorem okC21 : okSort [1, 0, 0, 1] = true := okSort_of okF21 (by decide +kernel)
theorem okD21 : okCount [1, 0, 0, 1] = true := okCount_of okF21 (by decide +kernel)
theorem okA22 : okTxt [0, 1, 0, 1] = true := by decide +kernel
theorem okB22 : okNums [0, 1, 0, 1] = true := by decide +kernel
theorem okF22 : found [0, 1, 0, 1] = [(6, [0, 1, 0, 1, 0]), (7, [0, 1, 0, 0, 1]), (8, [0, 0, 1, 0, 1]), (9, [1, 0, 1, 0, 1]), (10, [0, 1, 1, 0, 1]), (11, [0, 1, 0, 1, 1])] := by decide +kernel
theorem okC22 : okSort [0, 1, 0, 1] = true := okSort_of okF22 (by decide +kernel)
theorem okD22 : okCount [0, 1, 0, 1] = true := okCount_of okF22 (by decide +kernel)
theorem okA23 : okTxt [1, 1, 0, 1] = true := by decide +kernel
theorem okB23 : okNums [1, 1, 0, 1] = true := by decide +kernel
theorem okF23 : found [1, 1, 0, 1] = [(7, [1, 1, 0, 1, 0]), (8, [1, 1, 0, 0, 1]), (9, [1, 0, 1, 0, 1]), (10, [0, 1, 1, 0, 1]), (11, [1, 1, 1, 0, 1]), (12, [1, 1, 0, 1, 1])] := by decide +kernel
theorem okC23 : okSort [1, 1, 0, 1] = true := okSort_of okF23 (by decide +kernel)
theorem okD23 : okCount [1, 1, 0, 1] = true := okCount_of okF23 (by decide +kernel)
theorem okA24 : okTxt [0, 0, 1, 1] = true := by decide +kernel
theorem okB24 : okNums [0, 0, 1, 1] = true := by decide +kernel
theorem okF24 : found [0, 0, 1, 1] = [(7, [0, 0, 1, 1, 0]), (8, [0, 0, 1, 0, 1]), (9, [0, 0, 0, 1, 1]), (10, [1, 0, 0, 1, 1]), (11, [0, 1, 0, 1, 1]), (12, [0, 0, 1, 1, 1])] := by decide +kernel
theorem okC24 : okSort [0, 0, 1, 1] = true := okSort_of okF24 (by decide +kernel)
theorem okD24 : okCount [0, 0, 1, 1] = true := okCount_of okF24 (by decide +kernel)
theorem okA25 : okTxt [1, 0, 1, 1] = true := by decide +kernel
theorem okB25 : okNums [1, 0, 1, 1] = true := by decide +kernel
theorem okF25 : found [1, 0, 1, 1] = [(8, [1, 0, 1, 1, 0]), (9, [1, 0, 1, 0, 1]), (10, [1, 0, 0, 1, 1]), (11, [0, 1, 0, 1, 1]), (12, [1, 1, 0, 1, 1]), (13, [1, 0, 1, 1, 1])] := by decide +kernel
theorem okC25 : okSort [1, 0, 1, 1] = true := okSort_of okF25 (by decide +kernel)
theorem okD25 : okCount [1, 0, 1, 1] = true := okCount_of okF25 (by decide +kernel)
theorem okA26 : okTxt [0, 1, 1, 1] = true := by decide +kernel
theorem okB26 : okNums [0, 1, 1, 1] = true := by decide +kernel
theorem okF26 : found [0, 1, 1, 1] = [(9, [0, 1, 1, 1, 0]), (10, [0, 1, 1, 0, 1]), (11, [0, 1, 0, 1, 1]), (12, [0, 0, 1, 1, 1]), (13, [1, 0, 1, 1, 1]), (14, [0, 1, 1, 1, 1])] := by decide +kernel
theorem okC26 : okSort [0, 1, 1, 1] = true := okSort_of okF26 (by decide +kernel)
theorem okD26 : okCount [0, 1, 1, 1] = true := okCount_of okF26 (by decide +kernel)
theorem okA27 : okTxt [1, 1, 1, 1] = true := by decide +kernel
theorem okB27 : okNums [1, 1, 1, 1] = true := by decide +kernel
theorem okF27 : found [1, 1, 1, 1] = [(10, [1, 1, 1, 1, 0]), (11, [1, 1, 1, 0, 1]), (12, [1, 1, 0, 1, 1]), (13, [1, 0, 1, 1, 1]), (14, [0, 1, 1, 1, 1]), (15, [1, 1, 1, 1, 1])] := by decide +kernel
theorem okC27 : okSort [1, 1, 1, 1] = true := okSort_of okF27 (by decide +kernel)
theorem okD27 : okCount [1, 1, 1, 1] = true := okCount_of okF27 (by decide +kernel)
theorem tapes_all : ∀ t ∈ tapes, okTape t = true :=
  List.forall_mem_cons.mpr ⟨okTape_of okA0 okB0 okC0 okD0, List.forall_mem_cons.mpr ⟨okTape_of okA1 okB1 okC1 okD1, List.forall_mem_cons.mpr ⟨okTape_of okA2 okB2 okC2 okD2, List.forall_mem_cons.mpr ⟨okTape_of okA3 okB3 okC3 okD3, List.forall_mem_cons.mpr ⟨okTape_of okA4 okB4 okC4 okD4, List.forall_mem_cons.mpr ⟨okTape_of okA5 okB5 okC5 okD5, List.forall_mem_cons.mpr ⟨okTape_of okA6 okB6 okC6 okD6, List.forall_mem_cons.mpr ⟨okTape_of okA7 okB7 okC7 okD7, List.forall_mem_cons.mpr ⟨okTape_of okA8 okB8 okC8 okD8, List.forall_mem_cons.mpr ⟨okTape_of okA9 okB9 okC9 okD9, List.forall_mem_cons.mpr ⟨okTape_of okA10 okB10 okC10 okD10, List.forall_mem_cons.mpr ⟨okTape_of okA11 okB11 okC11 okD11, List.forall_mem_cons.mpr ⟨okTape_of okA12 okB12 okC12 okD12, List.forall_mem_cons.mpr ⟨okTape_of okA13 okB13 okC13 okD13, List.forall_mem_cons.mpr ⟨okTape_of okA14 okB14 okC14 okD14, List.forall_mem_cons.mpr ⟨okTape_of okA15 okB15 okC15 okD15, List.forall_mem_cons.mpr ⟨okTape_of okA16 okB16 okC16 okD16, List.forall_mem_cons.mpr ⟨okTape_of okA17 okB17 okC17 okD17, List.forall_mem_cons.mpr ⟨okTape_of okA18 okB18 okC18 okD18, List.forall_mem_cons.mpr ⟨okTape_of okA19 okB19 okC19 okD19, List.forall_mem_cons.mpr ⟨okTape_of okA20 okB20 okC20 okD20, List.forall_mem_cons.mpr ⟨okTape_of okA21 okB21 okC21 okD21, List.forall_mem_cons.mpr ⟨okTape_of okA22 okB22 okC22 okD22, List.forall_mem_cons.mpr ⟨okTape_of okA23 okB23 okC23 okD23, List.forall_mem_cons.mpr ⟨okTape_of okA24 okB24 okC24 okD24, List.forall_mem_cons.mpr ⟨okTape_of okA25 okB25 okC25 okD25, List.forall_mem_cons.mpr ⟨okTape_of okA26 okB26 okC26 okD26, List.forall_mem_cons.mpr ⟨okTape_of okA27 okB27 okC27 okD27, fun _ h => nomatch h⟩⟩⟩⟩⟩⟩⟩⟩⟩⟩⟩⟩⟩⟩⟩⟩⟩⟩⟩⟩⟩⟩⟩⟩⟩⟩⟩⟩

section
variable {f : Nat → Nat}
theorem mapc_app (x y : Str) : mapc f (x ++ y) = mapc f x ++ mapc f y := by
  show (⟨(x.cps ++ y.cps).map f⟩ : Str) = ⟨x.cps.map f ++ y.cps.map f⟩
  rw [Array.map_append]
theorem mapc_slice (x : Str) (l u : Option Int) : Txt.slice (mapc f x) l u = mapc f (Txt.slice x l u) := by
  unfold Txt.slice
  rw [mapc_length]
  split
  · rfl
  · show (⟨_⟩ : Str) = ⟨_⟩
    congr 1
    rw [List.map_toArray, List.map_filterMap]
    congr 1
    refine filterMap_same fun i _ => ?_
    show (x.cps.map f)[i]? = _
    rw [Array.getElem?_map]
theorem foldl_glue (g : Str) : ∀ (ps : List Str) (acc : Array Nat), List.foldl (fun acc (p : Str) => acc ++ (mapc f g).cps ++ p.cps) (acc.map f) (ps.map (mapc f)) = (List.foldl (fun acc (p : Str) => acc ++ g.cps ++ p.cps) acc ps).map f
  | [], acc => rfl
  | p :: ps, acc => by
    rw [List.map_cons, List.foldl_cons, List.foldl_cons, ← foldl_glue g ps]
    congr 1
    show acc.map f ++ g.cps.map f ++ p.cps.map f = _
    rw [Array.map_append, Array.map_append]
theorem mapc_join (g : Str) (ps : List Str) : Txt.join (mapc f g) (ps.map (mapc f)) = mapc f (Txt.join g ps) := by
  show Builtin.Str.glued _ _ = mapc f (Builtin.Str.glued _ _)
  unfold Builtin.Str.glued
  cases ps with
  | nil => show (⟨#[]⟩ : Str) = ⟨Array.map f #[]⟩; rw [Array.map_empty]
  | cons p ps =>
    show (⟨_⟩ : Str) = ⟨_⟩
    congr 1
    exact foldl_glue g ps p.cps
end
theorem glue_len (g : Str) : ∀ (ps : List Str) (acc : Array Nat) (b : Nat), (∀ p ∈ ps, p.length ≤ b) → (List.foldl (fun acc (p : Str) => acc ++ g.cps ++ p.cps) acc ps).size ≤ acc.size + ps.length * (g.length + b)
  | [], acc, b, _ => by simp
  | p :: ps, acc, b, h => by
    rw [List.foldl_cons]
    have h1 := glue_len g ps (acc ++ g.cps ++ p.cps) b fun q hq => h q (.tail _ hq)
    have h2 : p.cps.size ≤ b := h p (.head _)
    rw [Array.size_append, Array.size_append] at h1
    rw [List.length_cons, Nat.succ_mul]
    have : g.cps.size = g.length := rfl
    omega
theorem join_len (g : Str) (ps : List Str) (b : Nat) (h : ∀ p ∈ ps, p.length ≤ b) : (Txt.join g ps).length ≤ b + ps.length * (g.length + b) := by
  show (Builtin.Str.glued g ps).cps.size ≤ _
  unfold Builtin.Str.glued
  cases ps with
  | nil => exact Nat.zero_le _
  | cons p ps =>
    have h1 := glue_len g ps p.cps b fun q hq => h q (.tail _ hq)
    have h2 : p.cps.size ≤ b := h p (.head _)
    show (List.foldl _ p.cps ps).size ≤ _
    rw [List.length_cons, Nat.succ_mul]
    omega
theorem app_len (x y : Str) : (x ++ y).length = x.length + y.length := by show (x.cps ++ y.cps).size = _; rw [Array.size_append]; rfl
theorem cs_len (bs : List Int) : (cs bs).length = bs.length := by show (bs.map Int.toNat).toArray.size = _; simp
theorem cJoin_len (t : List Int) : (cJoin t).length ≤ 1 + t.length * 4 := by
  have h := join_len dots (t.map fun b => cs [b]) 1 fun p hp => by
    obtain ⟨b, _, rfl⟩ := List.mem_map.mp hp
    rw [cs_len]; exact Nat.le_refl _
  rw [List.length_map] at h
  exact h
theorem dots_len : dots.length = 3 := rfl
theorem eps_len : eps.length = 0 := rfl
theorem cLoose_len (t : List Int) : (cLoose t).length ≤ 7 + t.length * 4 := by
  have := cJoin_len t
  rw [cLoose, app_len, app_len, dots_len]; omega
theorem fr_len (n : Nat) : (frOf n).length ≤ 3 := by
  unfold frOf; split
  · exact Nat.le_refl _
  · exact Nat.zero_le _
theorem bk_len (n : Nat) : (bkOf n).length ≤ 3 := by
  unfold bkOf; split
  · exact Nat.le_refl _
  · exact Nat.zero_le _
theorem slice_len (x : Str) (l u : Option Int) : (Txt.slice x l u).length ≤ x.length := Txt.slice_le x l u
theorem cGap_len (t : List Int) (p : Nat) : (cGap t p).length ≤ t.length + 3 + t.length := by
  have h1 := slice_len (cs t) none (some (p : Int))
  have h2 := slice_len (cs t) (some (p : Int)) none
  rw [cs_len] at h1 h2
  rw [cGap, app_len, app_len, dots_len]; omega
theorem cShared_len (t : List Int) (p : Nat) : (cShared t p).length ≤ t.length + 3 + t.length := by
  have h1 := slice_len (cs t) none (some ((p : Int) + 1))
  have h2 := slice_len (cs t) (some (p : Int)) none
  rw [cs_len] at h1 h2
  rw [cShared, app_len, app_len, dots_len]; omega
/-- the letters' code points -/
noncomputable def lf (s0 s1 n : Nat) : Nat := if n = 0 then s0 else if n = 1 then s1 else if n = 46 then 46 else n + 1000
theorem lf_inj {s0 s1 : Nat} (h0 : s0 < 256) (h1 : s1 < 256) (h2 : s0 ≠ s1) (h3 : s0 ≠ 46) (h4 : s1 ≠ 46) : ∀ a b, lf s0 s1 a = lf s0 s1 b → a = b := by
  intro a b h
  unfold lf at h
  split at h <;> split at h <;> (try split at h) <;> (try split at h) <;> (try split at h) <;> (try split at h) <;> omega
theorem lf_dot {s0 s1 : Nat} : lf s0 s1 46 = 46 := rfl
theorem join_ok (g : Str) (ps : List Str) (h : ps.length ≤ 10) (hg : g.length ≤ 3) (hp : ∀ p ∈ ps, p.length ≤ 1) : JoinOk g ps = true := by
  unfold JoinOk
  have key : ∀ (l : List Str) (acc : Nat), (∀ p ∈ l, p.length ≤ 1) → List.foldl (fun x y => x + y.length + g.length) acc l ≤ acc + l.length * 4 := fun l => by
    induction l with
    | nil => intro acc _; simp
    | cons p l ih =>
      intro acc hl
      rw [List.foldl_cons, List.length_cons, Nat.succ_mul]
      have h1 := ih (acc + p.length + g.length) fun q hq => hl q (.tail _ hq)
      have h2 := hl p (.head _)
      omega
  have hk := key ps 0 hp
  rw [List.foldl_toArray'] <;> try rfl
  have h2 : List.foldl (fun x y => x + y.length + g.length) 0 ps ≤ 40 := by omega
  have h3 : ∀ n : Nat, n ≤ 40 → (!Builtin.Str.tooLong n) = true := by decide +kernel
  exact h3 _ h2

theorem pyl_small (x : Int) {y : Int} (hy : y ≠ 0) (h : y.natAbs.log2 / 30 + 1 ≤ 300) : Builtin.divisionGoesByPylong x y = false := by
  unfold Builtin.divisionGoesByPylong
  dsimp only
  have hy' : (y == 0) = false := by simpa using hy
  simp only [hy', Bool.false_eq_true, if_false]
  have h2 : ¬ (y.natAbs.log2 / 30 + 1 > 300) := by omega
  simp only [h2, decide_false, Bool.false_and]
structure LF (script : List Int) (T S : Int) (sz : Nat) (torn : List Int) (s0 s1 : Nat) : Prop where
  len : script.length ≤ 63
  sum : T = script.sum
  spr : S = T.fdiv 3
  sz3 : 3 ≤ sz
  sz5 : sz ≤ 5
  tl : torn.length + 1 = sz
  tape : torn ∈ tapes
  bit : ∀ b ∈ torn, b = 0 ∨ b = 1
  a0 : s0 < 256 ∧ 65 ≤ s0 % 128
  a1 : s1 < 256 ∧ s1 % 128 < 64 ∧ s1 ≠ 46
noncomputable abbrev m6 (script : List Int) (T S : Int) (sz : Nat) (torn : List Int) (s0 s1 : Nat) : Mp :=
  [("signs", .d (.list [.int s0, .int s1])), ("torn", .d (.list (torn.map .int))), ("size", .d (.int sz)), ("spread", .d (.int S)), ("total", .d (.int T)), ("script", .d (.list (script.map .int)))]
theorem mem_tapes {t : List Int} (hb : ∀ b ∈ t, b = 0 ∨ b = 1) (h2 : 2 ≤ t.length) (h4 : t.length ≤ 4) : t ∈ tapes := by
  match t, hb, h2, h4 with
  | [a, b], hb, _, _ =>
    rcases hb a (by simp) with rfl | rfl <;> rcases hb b (by simp) with rfl | rfl <;> decide +kernel
  | [a, b, c], hb, _, _ =>
    rcases hb a (by simp) with rfl | rfl <;> rcases hb b (by simp) with rfl | rfl <;> rcases hb c (by simp) with rfl | rfl <;> decide +kernel
  | [a, b, c, d], hb, _, _ =>
    rcases hb a (by simp) with rfl | rfl <;> rcases hb b (by simp) with rfl | rfl <;> rcases hb c (by simp) with rfl | rfl <;> rcases hb d (by simp) with rfl | rfl <;> decide +kernel
  | [], _, h, _ => exact absurd h (by decide)
  | [_], _, h, _ => exact absurd h (by simp)
  | a :: b :: c :: d :: e :: r, _, _, h => exact absurd h (by simp)
theorem fm_bounds (x : Int) {y : Int} (hy : 0 < y) : 0 ≤ x.fmod y ∧ x.fmod y < y := by
  rw [Int.fmod_eq_emod_of_nonneg _ (by omega)]
  exact ⟨Int.emod_nonneg _ (by omega), Int.emod_lt_of_pos _ hy⟩
theorem law_a {C : Cfg} (W : Wd C) {script : List Int} (hl : script.length ≤ 63) {k : Nat} {L a : Addr} {pm code doc : Value} {Q : Fl → Mp → Prop}
    (rest : ∀ T S sz torn s0 s1, LF script T S sz torn s0 s1 → Do C C.T k (callEnvC (dLaw.data pm code doc) L a) false (dLaw.body.drop 6) (m6 script T S sz torn s0 s1) Q) :
    Do C C.T k (callEnvC (dLaw.data pm code doc) L a) false dLaw.body [("script", .d (.list (script.map .int)))] Q := by
  obtain ⟨T, hT⟩ : ∃ T, T = script.sum := ⟨_, rfl⟩
  obtain ⟨S, hS⟩ : ∃ S, S = T.fdiv 3 := ⟨_, rfl⟩
  refine Do.cons (DoS.assign ⟨.inl rfl, nofun⟩ (d := .int T) (Ev.bi (ds := [.list (script.map .int)]) W rfl W.sum (by decide) (NoStar.cons NoStar.nil) ?_ (hT ▸ call_sum)) ?_)
  · walk_at "ev"
  dsimp only
  refine Do.cons (DoS.assign ⟨.inl rfl, nofun⟩ (d := .int S) (Ev.bin (d₁ := .int T) (d₂ := .int 3) ?_ ?_ (hS ▸ op_floordiv (by decide) (pyl_small _ (by decide) (by decide +kernel)))) ?_)
  · walk_at "ev"
  · walk_at "ev"
  dsimp only
  obtain ⟨sz, hsz, h3, h5⟩ : ∃ sz : Nat, 3 + (T + 1).fmod 3 = (sz : Int) ∧ 3 ≤ sz ∧ sz ≤ 5 := by
    have := fm_bounds (T + 1) (y := 3) (by decide)
    exact ⟨(3 + (T + 1).fmod 3).toNat, by omega, by omega, by omega⟩
  refine Do.cons (DoS.assign ⟨.inr rfl, fun _ => ⟨rfl, rfl⟩⟩ (d := .int (sz : Int)) (Ev.cast (d' := .int (3 + (T + 1).fmod 3)) ?_ (by rw [hsz])) ?_)
  · walk_at "ev"
    decide
  dsimp only
  obtain ⟨torn, ht⟩ : ∃ torn : List Int, torn = ((script ++ [1, 0, 0, 1]).take (sz - 1)).map (fun x : Int => x.fmod 2) := ⟨_, rfl⟩
  have htl : torn.length + 1 = sz := by
    rw [ht, List.length_map, List.length_take, List.length_append]
    simp only [List.length_cons, List.length_nil]; omega
  have hbit : ∀ b ∈ torn, b = 0 ∨ b = 1 := fun b hb => by
    rw [ht] at hb
    obtain ⟨x, _, rfl⟩ := List.mem_map.mp hb
    have := fm_bounds x (y := 2) (by decide)
    show x.fmod 2 = 0 ∨ x.fmod 2 = 1
    omega
  refine Do.cons (DoS.assign ⟨.inr rfl, fun _ => ⟨rfl, rfl⟩⟩ (d := .list (torn.map .int)) (Ev.cast (EvL.compA (mc := []) (g := fun (x : Int) => .int (x.fmod 2)) int_inj ((script ++ [1, 0, 0, 1]).take (sz - 1)) rfl ⟨fun y b h => (by cases h), by decide⟩ (EvI.list ?_) ?_ (fun L' => by exact ⟨.inl rfl, (by intro h; cases h)⟩) rfl (by decide) (fun L' a ha => ?_)).ev ?_) ?_)
  · refine Ev.cast (d' := .list (dpick (script.map .int ++ [.int 1, .int 0, .int 0, .int 1]) none (some ((sz : Int) - 1)) none)) ?_ ?_
    · refine Ev.slice' (fun _ _ => ⟨_, rfl⟩) ?_ ?_ ?_ ?_ ?_ (by nofun)
      · refine Ev.bin ?_ ?_ (Op2L.op (op_addl ?_))
        · walk_at "ev"
        · exact Ev.list' (ds := [.int 1, .int 0, .int 0, .int 1]) (by walk_at "ev") (by rw [sizeLine_eq]; decide)
        · rw [sizeLine_eq, List.length_map]; simp only [List.length_cons, List.length_nil]; omega
      · walk_at "ev"
      · walk_at "ev"
      · walk_at "ev"
      · rw [sizeLine_eq, List.length_append, List.length_map]; simp only [List.length_cons, List.length_nil]; omega
    · rw [show (sz : Int) - 1 = ((sz - 1 : Nat) : Int) by omega, dpick_to, List.map_take, List.map_append]; rfl
  · rw [sizeLine_eq, List.length_take]; omega
  · walk_at "ev"
    decide
  · rw [ht, List.map_map]; rfl
  dsimp only
  obtain ⟨low, hlow⟩ : ∃ low, low = (S + 10).fmod 63 := ⟨_, rfl⟩
  have lowb := fm_bounds (S + 10) (y := 63) (by decide)
  rw [← hlow] at lowb
  refine Do.cons (DoS.assign ⟨.inl rfl, nofun⟩ (d := .int low) (Ev.cast (d' := .int ((S + 10).fmod 63)) ?_ (by rw [hlow])) ?_)
  · walk_at "ev"
    decide
  dsimp only
  have b1 := fm_bounds (S + 5) (y := 63) (by decide)
  have b2 := fm_bounds (S.fdiv 63) (y := 2) (by decide)
  have b3 := fm_bounds (S.fdiv 45) (y := 2) (by decide)
  have e46 : low.fdiv 46 = low / 46 := Int.fdiv_eq_ediv_of_nonneg _ (by decide)
  obtain ⟨s0, hs0⟩ : ∃ s0 : Nat, (s0 : Int) = 65 + (S + 5).fmod 63 + 128 * ((S.fdiv 63).fmod 2) := ⟨(65 + (S + 5).fmod 63 + 128 * ((S.fdiv 63).fmod 2)).toNat, by omega⟩
  obtain ⟨s1, hs1⟩ : ∃ s1 : Nat, (s1 : Int) = low + low.fdiv 46 + 128 * ((S.fdiv 45).fmod 2) := ⟨(low + low.fdiv 46 + 128 * ((S.fdiv 45).fmod 2)).toNat, by rw [e46]; omega⟩
  rw [e46] at hs1
  have hs1' : s1 < 256 ∧ s1 % 128 < 64 ∧ s1 ≠ 46 := by
    have hf : low / 46 = 0 ∨ low / 46 = 1 := by omega
    have hg : (S.fdiv 45).fmod 2 = 0 ∨ (S.fdiv 45).fmod 2 = 1 := by omega
    rcases hf with hf | hf <;> rcases hg with hg | hg <;> rw [hf, hg] at hs1 <;> omega
  rw [← e46] at hs1
  have mulok : ∀ x : Int, 0 ≤ x → x < 2 → IntMulOk 128 x := fun x h0 h1 => mul_ok (i := 8) (j := 1) (by decide) (by omega) (by decide)
  refine Do.cons (DoS.assign ⟨.inr rfl, fun _ => ⟨rfl, rfl⟩⟩ (d := .list [.int s0, .int s1]) (Ev.cast (d' := .list [.int (65 + (S + 5).fmod 63 + 128 * ((S.fdiv 63).fmod 2)), .int (low + low.fdiv 46 + 128 * ((S.fdiv 45).fmod 2))]) ?_ (by rw [hs0, hs1])) ?_)
  · refine Ev.list' ?_ (by rw [sizeLine_eq]; simp only [List.length_cons, List.length_nil]; omega)
    walk_at "ev"
    all_goals first
      | exact mulok _ b2.1 b2.2
      | exact mulok _ b3.1 b3.2
      | exact pyl_small _ (by decide) (by decide +kernel)
      | decide
  dsimp only
  refine Do.sub (rest T S sz torn s0 s1 ⟨hl, hT, hS, h3, h5, htl, mem_tapes hbit (by omega) (by omega), hbit, ⟨by omega, by omega⟩, hs1'⟩) (SubL.sub (by repeat (first | exact trivial | refine ⟨rfl, ?_⟩)))

theorem DoS.assignCompA {α : Type} {inj : α → PyData} {g : α → PyData} {C : Cfg} {T : List Addr} {k : Nat} {env : Env} {fz : Bool} {m mc : Mp} {Q : Fl → Mp → Prop} {y x : Str} {p' px : Pos} {iter elt : Expr} {scope : Scope} {cpos pos : Pos} (hinj : ∀ a b, inj a = inj b → a = b) (src : List α) (ok : compOk scope env = true) (sn : Seen scope m mc) (hit : EvI C k env m iter (src.map inj)) (hsz : src.length ≤ sizeLine)
    (hx : ∀ L', CanBind (compEnvC scope (closOf env scope.names []) L' env) true x) (hmc : mc.lookup x = none) (hk : x ≠ kI ∧ x ≠ kS ∧ x ≠ kA)
    (he : ∀ L' a, a ∈ src → Ev C k (compEnvC scope (closOf env scope.names []) L' env) ((x, .d (inj a)) :: mc) elt (g a))
    (hy : env.kindOf y = some .local) (q : Q .next ((y, .d (.list (src.map g))) :: m))
    (hs : swapsWith (.ListComp elt [⟨.Name x px, iter, [], 0⟩] scope cpos) (some (.Name y p')) pos.line env = pure true := by rfl) (hfs : ∀ x, foldedSetIterable iter env x = pure x := by intro _; rfl) :
    DoS C T k env fz (.Assign [.Name y p'] (.ListComp elt [⟨.Name x px, iter, [], 0⟩] scope cpos) pos) m Q := by
  refine DoS.assignComp ok sn hit (CompBody.one (p := fun _ => true) (g := g) hinj src hx hmc hk (fun _ _ _ => .inl ⟨rfl, rfl⟩) fun L' a ha _ => he L' a ha) (by rw [List.length_map]; exact hsz) hy ?_ hs hfs
  rw [outs_lift hinj, List.filter_eq_self.mpr fun _ _ => rfl]
  exact q
theorem Ev.joinE {C : Cfg} {k : Nat} {env : Env} {m : Mp} {o a e : Expr} {apos pos : Pos} (x : Str) (ss : List Str) (he : e = .Call (.Attribute o (Str.ofString "join") apos) [a] [] pos) (hbase : attributeBase o (Str.ofString "join") env (eval o env) = eval o env) (hline : (apos.endLine == pos.line) = true) (hns : NoStar [a]) (h0 : Ev C k env m o (.str x)) (ha : Evs C k env m [a] [.list (ss.map .str)]) (hj : JoinOk x ss = true) : Ev C k env m e (.str (Txt.join x ss)) := by
  subst he; exact Ev.meth' meth_join hbase hline (Nat.le_of_ble_eq_true rfl) hns h0 rfl ha (call_join hj)
noncomputable def SeenL (scope : Scope) (m : Mp) : Mp → Prop
  | [] => True
  | p :: r => (m.lookup p.1 = some p.2 ∧ p.2.addr = none ∧ scope.names.lookup p.1 ≠ some .local) ∧ SeenL scope m r
theorem SeenL.sub {scope : Scope} {m : Mp} : ∀ {mc : Mp}, SeenL scope m mc → ∀ y b, mc.lookup y = some b → m.lookup y = some b ∧ b.addr = none ∧ scope.names.lookup y ≠ some .local
  | [], _, y, b, e => by cases e
  | (x, c) :: r, h, y, b, e => by
    by_cases hy : y = x
    · subst hy; rw [lk_self] at e; cases e; exact h.1
    · rw [lk_ne hy] at e; exact SeenL.sub h.2 y b e
local macro_rules | `(tactic| walk_at "seen") => `(tactic| (refine ⟨SeenL.sub ?_, ⟨rfl, rfl, rfl, rfl, rfl, rfl⟩⟩; repeat (first | exact trivial | refine ⟨⟨rfl, rfl, (by intro h; cases h)⟩, ?_⟩)))
noncomputable def sgn (s0 s1 : Nat) (b : Int) : Nat := if b = 0 then s0 else s1
theorem sgn_at {s0 s1 : Nat} {b : Int} (h : b = 0 ∨ b = 1) : seqIndex? b [PyData.int s0, PyData.int s1].length = some b.toNat ∧ [PyData.int s0, PyData.int s1][b.toNat]? = some (.int (sgn s0 s1 b)) := by
  rcases h with rfl | rfl <;> exact ⟨rfl, rfl⟩
theorem letter_eq {s0 s1 : Nat} {b : Int} (h : b = 0 ∨ b = 1) : (⟨#[((sgn s0 s1 b : Nat) : Int).toNat]⟩ : Str) = mapc (lf s0 s1) (cs [b]) := by
  rw [Int.toNat_natCast]
  rcases h with rfl | rfl <;> simp [mapc, cs, lf, sgn]
theorem sgn_bound {s0 s1 : Nat} (h0 : s0 < 256) (h1 : s1 < 256) (b : Int) : sgn s0 s1 b < 256 := by unfold sgn; split <;> assumption
theorem mapc_eps {f : Nat → Nat} : mapc f eps = eps := by
  show (⟨Array.map f #[]⟩ : Str) = ⟨#[]⟩
  rw [Array.map_empty]
theorem fr_map {s0 s1 n : Nat} : mapc (lf s0 s1) (frOf n) = frOf n := by
  unfold frOf; split
  · exact mapc_dots lf_dot
  · exact mapc_eps
theorem bk_map {s0 s1 n : Nat} : mapc (lf s0 s1) (bkOf n) = bkOf n := by
  unfold bkOf; split
  · exact mapc_dots lf_dot
  · exact mapc_eps
theorem foldl_eps : ∀ (bs : List Int) (acc : Array Nat), List.foldl (fun acc (p : Str) => acc ++ eps.cps ++ p.cps) acc (bs.map fun b => cs [b]) = acc ++ (bs.map Int.toNat).toArray
  | [], acc => by simp
  | b :: bs, acc => by
    rw [List.map_cons, List.foldl_cons, foldl_eps bs]
    have e : (cs [b]).cps = #[b.toNat] := rfl
    have e2 : eps.cps = #[] := rfl
    rw [e, e2, List.map_cons]
    simp only [Array.append_empty, Array.append_assoc]
    congr 1
    simp
theorem join_eps (bs : List Int) : Txt.join eps (bs.map fun b => cs [b]) = cs bs := by
  show Builtin.Str.glued _ _ = _
  unfold Builtin.Str.glued
  cases bs with
  | nil => rfl
  | cons b bs =>
    show (⟨List.foldl _ (cs [b]).cps (bs.map fun b => cs [b])⟩ : Str) = _
    rw [foldl_eps]
    show (⟨#[b.toNat] ++ (bs.map Int.toNat).toArray⟩ : Str) = ⟨((b :: bs).map Int.toNat).toArray⟩
    congr 1
    simp
theorem LF.inj {script : List Int} {T S : Int} {sz : Nat} {torn : List Int} {s0 s1 : Nat} (H : LF script T S sz torn s0 s1) : ∀ a b, lf s0 s1 a = lf s0 s1 b → a = b :=
  lf_inj H.a0.1 H.a1.1 (by have := H.a0; have := H.a1; omega) (by have := H.a0; omega) H.a1.2.2
theorem mstr_inj {f : Nat → Nat} (hf : ∀ a b, f a = f b → a = b) : ∀ x y : Str, PyData.str (mapc f x) = .str (mapc f y) → x = y := fun x y h => mapc_inj hf (str_inj _ _ h)
noncomputable abbrev m13 (script : List Int) (T S : Int) (sz : Nat) (torn : List Int) (s0 s1 : Nat) : Mp :=
  ("other", .d (.str (mapc (lf s0 s1) (cOther torn)))) :: ("plain", .d (.str (mapc (lf s0 s1) (cs torn)))) :: ("held", .d (.str (mapc (lf s0 s1) (cHeld (frOf script.length) (bkOf script.length) torn)))) :: ("back", .d (.str (bkOf script.length))) :: ("front", .d (.str (frOf script.length))) :: ("loose", .d (.str (mapc (lf s0 s1) (cLoose torn)))) :: m6 script T S sz torn s0 s1
theorem law_b {C : Cfg} (W : Wd C) {script : List Int} {T S : Int} {sz : Nat} {torn : List Int} {s0 s1 : Nat} (H : LF script T S sz torn s0 s1) {k : Nat} {L a : Addr} {pm code doc : Value} {Q : Fl → Mp → Prop}
    (rest : Do C C.T k (callEnvC (dLaw.data pm code doc) L a) false (dLaw.body.drop 13) (m13 script T S sz torn s0 s1) Q) :
    Do C C.T k (callEnvC (dLaw.data pm code doc) L a) false (dLaw.body.drop 6) (m6 script T S sz torn s0 s1) Q := by
  have htl : torn.length ≤ 4 := by have := H.tl; have := H.sz5; omega
  have hdd : Str.ofString "..." = mapc (lf s0 s1) dots := (mapc_dots lf_dot).symm
  have hcl : ∀ bs : List Int, ∀ p ∈ bs.map fun b => mapc (lf s0 s1) (cs [b]), p.length ≤ 1 := fun bs p hp => by
    obtain ⟨b, _, rfl⟩ := List.mem_map.mp hp
    rw [mapc_length, cs_len]; exact Nat.le_refl _
  have hjl := cJoin_len torn
  have hletters : (torn.map fun b => mapc (lf s0 s1) (cs [b])) = (torn.map fun b => cs [b]).map (mapc (lf s0 s1)) := by rw [List.map_map]; rfl
  have hjd : Txt.join (Str.ofString "...") (torn.map fun b => mapc (lf s0 s1) (cs [b])) = mapc (lf s0 s1) (cJoin torn) := by rw [hdd, hletters, mapc_join]; rfl
  have hje : ∀ bs : List Int, Txt.join (Str.ofString "") (bs.map fun b => mapc (lf s0 s1) (cs [b])) = mapc (lf s0 s1) (cs bs) := fun bs => by
    have e : (bs.map fun b => mapc (lf s0 s1) (cs [b])) = (bs.map fun b => cs [b]).map (mapc (lf s0 s1)) := by rw [List.map_map]; rfl
    rw [e]
    have := mapc_join (f := lf s0 s1) eps (bs.map fun b => cs [b])
    rw [mapc_eps, join_eps] at this
    exact this
  refine Do.cons (DoS.assignCompA (mc := [("signs", .d (.list [.int s0, .int s1]))]) (g := fun b => .str (mapc (lf s0 s1) (cs [b]))) int_inj torn rfl (by walk_at "seen") (EvI.list ?_) ?_ (fun L' => by exact ⟨.inl rfl, (by intro h; cases h)⟩) rfl (by decide) (fun L' b hb => ?_) rfl ?_)
  · walk_at "ev"
  · rw [sizeLine_eq]; omega
  · obtain ⟨i1, i2⟩ := sgn_at (s0 := s0) (s1 := s1) (H.bit b hb)
    rw [← letter_eq (H.bit b hb)]
    refine Ev.bi (ds := [.int (sgn s0 s1 b : Nat)]) W rfl W.chr (by decide) (NoStar.cons NoStar.nil) ?_ (call_chr (by omega) (by have := sgn_bound H.a0.1 H.a1.1 b; omega))
    apply Evs.cons' rfl ?_ Evs.nil
    refine Ev.item' (j := b.toNat) (fun _ _ => rfl) ?_ ?_ i1 i2 (by show 2 ≤ sizeLine; rw [sizeLine_eq]; decide)
    · walk_at "ev"
    · walk_at "ev"
  dsimp only
  obtain ⟨ls, hls⟩ : ∃ ls : List Str, ls = torn.map fun b => mapc (lf s0 s1) (cs [b]) := ⟨_, rfl⟩
  have els : (torn.map fun b => PyData.str (mapc (lf s0 s1) (cs [b]))) = ls.map .str := by rw [hls, List.map_map]; rfl
  have hlsl : ls.length ≤ 4 := by rw [hls, List.length_map]; exact htl
  have hlp : ∀ p ∈ ls, p.length ≤ 1 := by rw [hls]; exact hcl torn
  rw [← hls] at hjd
  rw [els]
  have jok : ∀ g : Str, g.length ≤ 3 → JoinOk g ls = true := fun g hg => join_ok g ls (by omega) hg hlp
  refine Do.cons (DoS.assign ⟨.inl rfl, nofun⟩ (d := .str (mapc (lf s0 s1) (cLoose torn))) (Ev.cast (d' := .str ((Str.ofString "..." ++ Txt.join (Str.ofString "...") ls) ++ Str.ofString "...")) (Ev.bin (Ev.bin Ev.str (Ev.joinE (Str.ofString "...") ls rfl rfl rfl (NoStar.cons NoStar.nil) Ev.str ?_ (jok _ (by decide))) (op_adds ?_)) Ev.str (op_adds ?_)) ?_) ?_)
  · walk_at "ev"
  · rw [hjd, mapc_length, sizeLine_eq]; show 3 + _ ≤ _; omega
  · rw [hjd, app_len, mapc_length, sizeLine_eq]; show 3 + _ + 3 ≤ _; omega
  · rw [hjd, hdd, ← mapc_app, ← mapc_app]; rfl
  dsimp only
  have hsl : ((script.map PyData.int).length : Int) = (script.length : Int) := by rw [List.length_map]
  have hfm : ∀ j : Int, 0 ≤ j → j < 3 → ((((script.map PyData.int).length : Int).fmod 3 == j) = decide (script.length % 3 = j.toNat)) := fun j h0 h1 => by
    rw [hsl, Int.fmod_eq_emod_of_nonneg _ (by decide), Bool.eq_iff_iff, beq_iff_eq, decide_eq_true_eq]; omega
  refine Do.cons (DoS.assign ⟨.inl rfl, nofun⟩ (d := .str (frOf script.length)) (Ev.ifexp (b := decide (script.length % 3 = 1)) (Te.cast (b' := (((script.map PyData.int).length : Int).fmod 3 == 1)) ?_ (hfm 1 (by decide) (by decide))) (fun h => Ev.cast Ev.str ?_) (fun h => Ev.cast Ev.str ?_)) ?_)
  · walk_at "ev"
    · rw [List.length_map, sizeLine_eq]; have := H.len; omega
    · decide
  · rw [frOf, if_pos (of_decide_eq_true h)]; rfl
  · rw [frOf, if_neg (of_decide_eq_false h)]
  dsimp only
  refine Do.cons (DoS.assign ⟨.inl rfl, nofun⟩ (d := .str (bkOf script.length)) (Ev.ifexp (b := decide (script.length % 3 = 0)) (Te.cast (b' := (((script.map PyData.int).length : Int).fmod 3 == 0)) ?_ (hfm 0 (by decide) (by decide))) (fun h => Ev.cast Ev.str ?_) (fun h => Ev.cast Ev.str ?_)) ?_)
  · walk_at "ev"
    · rw [List.length_map, sizeLine_eq]; have := H.len; omega
    · decide
  · rw [bkOf, if_pos (of_decide_eq_true h)]; rfl
  · rw [bkOf, if_neg (of_decide_eq_false h)]
  dsimp only
  have hfl := fr_len script.length
  have hbl := bk_len script.length
  refine Do.cons (DoS.assign ⟨.inl rfl, nofun⟩ (d := .str (mapc (lf s0 s1) (cHeld (frOf script.length) (bkOf script.length) torn))) (Ev.cast (d' := .str ((frOf script.length ++ Txt.join (Str.ofString "...") ls) ++ bkOf script.length)) (Ev.bin (Ev.bin ?_ (Ev.joinE (Str.ofString "...") ls rfl rfl rfl (NoStar.cons NoStar.nil) Ev.str ?_ (jok _ (by decide))) (op_adds ?_)) ?_ (op_adds ?_)) ?_) ?_)
  · walk_at "ev"
  · walk_at "ev"
  · rw [hjd, mapc_length, sizeLine_eq]; omega
  · walk_at "ev"
  · rw [hjd, app_len, mapc_length, sizeLine_eq]; omega
  · rw [hjd, cHeld, mapc_app, mapc_app, fr_map, bk_map]
  dsimp only
  refine Do.cons (DoS.assign ⟨.inr rfl, fun _ => ⟨rfl, rfl⟩⟩ (d := .str (mapc (lf s0 s1) (cs torn))) (Ev.cast (Ev.joinE (Str.ofString "") ls rfl rfl rfl (NoStar.cons NoStar.nil) Ev.str ?_ (jok _ (by decide))) ?_) ?_)
  · walk_at "ev"
  · rw [hls, hje]
  dsimp only
  have hbit1 : ∀ b ∈ torn, 1 - b = 0 ∨ 1 - b = 1 := fun b hb => by have := H.bit b hb; omega
  obtain ⟨os, hos⟩ : ∃ os : List Str, os = (torn.map fun b => 1 - b).map fun b => mapc (lf s0 s1) (cs [b]) := ⟨_, rfl⟩
  have eos : (torn.map fun b => PyData.str (mapc (lf s0 s1) (cs [1 - b]))) = os.map .str := by rw [hos, List.map_map, List.map_map]; rfl
  have hosl : os.length ≤ 4 := by rw [hos, List.length_map, List.length_map]; exact htl
  refine Do.cons (DoS.assign ⟨.inl rfl, nofun⟩ (d := .str (mapc (lf s0 s1) (cOther torn))) (Ev.cast (Ev.joinE (Str.ofString "") os rfl rfl rfl (NoStar.cons NoStar.nil) Ev.str ?_ (join_ok _ os (by omega) (by decide) (by rw [hos]; exact hcl _))) ?_) ?_)
  · apply Evs.cons' rfl ?_ Evs.nil
    rw [← eos]
    refine (EvL.compA (mc := [("signs", .d (.list [.int s0, .int s1]))]) (g := fun b => .str (mapc (lf s0 s1) (cs [1 - b]))) int_inj torn rfl (by walk_at "seen") (EvI.list ?_) ?_ (fun L' => by exact ⟨.inl rfl, (by intro h; cases h)⟩) rfl (by decide) (fun L' b hb => ?_)).ev
    · walk_at "ev"
    · rw [sizeLine_eq]; omega
    · obtain ⟨i1, i2⟩ := sgn_at (s0 := s0) (s1 := s1) (hbit1 b hb)
      rw [← letter_eq (hbit1 b hb)]
      refine Ev.bi (ds := [.int (sgn s0 s1 (1 - b) : Nat)]) W rfl W.chr (by decide) (NoStar.cons NoStar.nil) ?_ (call_chr (by omega) (by have := sgn_bound H.a0.1 H.a1.1 (1 - b); omega))
      apply Evs.cons' rfl ?_ Evs.nil
      refine Ev.item' (i := 1 - b) (j := (1 - b).toNat) (fun _ _ => rfl) ?_ ?_ i1 i2 (by show 2 ≤ sizeLine; rw [sizeLine_eq]; decide)
      · walk_at "ev"
      · walk_at "ev"
  · rw [hos, hje]; rfl
  dsimp only
  exact Do.sub rest (SubL.sub (by repeat (first | exact trivial | refine ⟨rfl, ?_⟩)))

theorem nat_inj : ∀ a b : Nat, PyData.int (a : Int) = .int (b : Int) → a = b := fun a b h => by injection h with h; omega
theorem rng_nat (n : Nat) : rng (n : Int).toNat = (List.range n).map fun i : Nat => PyData.int (i : Int) := by rw [Int.toNat_natCast]; rfl
theorem Ev.em {C : Cfg} {k : Nat} {env : Env} {m : Mp} {p pos : Pos} {args : List Expr} {f : Nat → Nat} {want got : Str} {b : Bool} (W : Wd C) (hf : ∀ a b, f a = f b → a = b) (hd : f 46 = 46) (hk : env.kindOf "_ellipsis_match" = some .globalImplicit) (hns : NoStar args) (h : chkEm want got b = true) (hk1 : 1 ≤ k) (ha : Evs C k env m args [.str (mapc f want), .str (mapc f got)]) :
    Ev C k env m (.Call (.Name "_ellipsis_match" p) args [] pos) (.bool b) := by
  unfold chkEm at h
  rw [Bool.and_eq_true, beq_iff_eq] at h
  rw [← h.2, ← ematch_map hf hd]
  exact Ev.fn W W.hEM rfl hk rfl hns ha (em_spec W (by rw [emOk_map hf hd]; exact h.1)) hk1
theorem tape_ok {t : List Int} (h : t ∈ tapes) : okTape t = true := tapes_all t h
theorem tape_txt {t : List Int} (h : t ∈ tapes) : okTxt t = true := by
  have := tape_ok h
  unfold okTape at this
  simp only [Bool.and_eq_true] at this
  exact this.1.1.1
noncomputable abbrev m19 (script : List Int) (T S : Int) (sz : Nat) (torn : List Int) (s0 s1 : Nat) : Mp :=
  ("gaps", .d (.list ((List.range sz).map fun p => .str (mapc (lf s0 s1) (cGap torn p))))) :: ("plain", .d (.str (mapc (lf s0 s1) (cs torn)))) :: ("held", .d (.str (mapc (lf s0 s1) (cHeld (frOf script.length) (bkOf script.length) torn)))) :: ("back", .d (.str (bkOf script.length))) :: ("front", .d (.str (frOf script.length))) :: ("loose", .d (.str (mapc (lf s0 s1) (cLoose torn)))) :: m6 script T S sz torn s0 s1
theorem law_c {C : Cfg} (W : Wd C) {script : List Int} {T S : Int} {sz : Nat} {torn : List Int} {s0 s1 : Nat} (H : LF script T S sz torn s0 s1) {k : Nat} (hk : 1 ≤ k) {L a : Addr} {pm code doc : Value} {Q : Fl → Mp → Prop}
    (rest : Do C C.T k (callEnvC (dLaw.data pm code doc) L a) false (dLaw.body.drop 19) (m19 script T S sz torn s0 s1) Q) :
    Do C C.T k (callEnvC (dLaw.data pm code doc) L a) false (dLaw.body.drop 13) (m13 script T S sz torn s0 s1) Q := by
  have htl : torn.length ≤ 4 := by have := H.tl; have := H.sz5; omega
  have hdd : Str.ofString "..." = mapc (lf s0 s1) dots := (mapc_dots lf_dot).symm
  have hinj := H.inj
  have hsz5 := H.sz5
  have hok := tape_txt H.tape
  unfold okTxt at hok
  rw [H.tl] at hok
  simp only [Bool.and_eq_true] at hok
  obtain ⟨⟨⟨⟨⟨⟨⟨o1, o2⟩, o3⟩, o4⟩, o5⟩, o6⟩, o7⟩, o8⟩ := hok
  have hpl : (mapc (lf s0 s1) (cs torn)).length ≤ sizeLine := by rw [mapc_length, cs_len, sizeLine_eq]; omega
  have hpl2 : ∀ l u, (mapc (lf s0 s1) (Txt.slice (cs torn) l u)).length ≤ 4 := fun l u => by
    have := slice_len (cs torn) l u
    rw [cs_len] at this
    rw [mapc_length]; omega
  refine Do.cons (DoS.assignCompA (mc := [("plain", .d (.str (mapc (lf s0 s1) (cs torn))))]) (g := fun p => .str (mapc (lf s0 s1) (cGap torn p))) nat_inj (List.range sz) rfl (by walk_at "seen") ?_ ?_ (fun L' => by exact ⟨.inl rfl, (by intro h; cases h)⟩) rfl (by decide) (fun L' p hp => ?_) rfl ?_)
  · rw [← rng_nat]
    refine EvI.range' W rfl ?_ rfl ?_ (by omega) (by omega)
    · walk_at "ev"
    · walk_at "ev"
  · rw [sizeLine_eq, List.length_range]; omega
  · refine Ev.cast (d' := .str ((Txt.slice (mapc (lf s0 s1) (cs torn)) none (some (p : Int)) ++ Str.ofString "...") ++ Txt.slice (mapc (lf s0 s1) (cs torn)) (some (p : Int)) none)) (Ev.bin (Ev.bin (Ev.sliceS ?_ ?_ ?_ hpl) Ev.str (op_adds ?_)) (Ev.sliceS ?_ ?_ ?_ hpl) (op_adds ?_)) ?_
    · walk_at "ev"
    · walk_at "ev"
    · walk_at "ev"
    · rw [mapc_slice]; have := hpl2 none (some (p : Int)); rw [sizeLine_eq]; show _ + 3 ≤ _; omega
    · walk_at "ev"
    · walk_at "ev"
    · walk_at "ev"
    · rw [mapc_slice, mapc_slice, app_len]; have := hpl2 none (some (p : Int)); have := hpl2 (some (p : Int)) none; rw [sizeLine_eq]; show _ + 3 + _ ≤ _; omega
    · rw [mapc_slice, mapc_slice, hdd, ← mapc_app, ← mapc_app]; rfl
  dsimp only
  have eg : ((List.range sz).map fun p => PyData.str (mapc (lf s0 s1) (cGap torn p))) ++ [.str (mapc (lf s0 s1) (cs torn))] = (((List.range sz).map (cGap torn)) ++ [cs torn]).map fun w => PyData.str (mapc (lf s0 s1) w) := by
    rw [List.map_append, List.map_map]; rfl
  have hall1 : ∀ w ∈ (List.range sz).map (cGap torn) ++ [cs torn], chkEm w (cs torn) true = true := fun w hw => by
    rcases List.mem_append.mp hw with hw | hw
    · obtain ⟨p, hp, rfl⟩ := List.mem_map.mp hw
      exact List.all_eq_true.mp o1 p hp
    · rw [List.mem_singleton] at hw; rw [hw]; exact o2
  refine Do.cons (DoS.assignCompA (mc := [("plain", .d (.str (mapc (lf s0 s1) (cs torn))))]) (inj := fun w => PyData.str (mapc (lf s0 s1) w)) (g := fun _ => .bool true) (mstr_inj hinj) ((List.range sz).map (cGap torn) ++ [cs torn]) rfl (by walk_at "seen") ?_ ?_ (fun L' => by exact ⟨.inl rfl, (by intro h; cases h)⟩) rfl (by decide) (fun L' w hw => ?_) rfl ?_)
  · rw [← eg]
    refine EvI.list (Ev.bin ?_ (Ev.list' (ds := [.str (mapc (lf s0 s1) (cs torn))]) ?_ ?_) (Op2L.op (op_addl ?_)))
    · walk_at "ev"
    · walk_at "ev"
    · show 1 ≤ sizeLine; rw [sizeLine_eq]; decide
    · rw [List.length_map, List.length_range, sizeLine_eq]; show sz + 1 ≤ _; omega
  · rw [List.length_append, List.length_map, List.length_range, sizeLine_eq]; show sz + 1 ≤ _; omega
  · refine Ev.em W hinj lf_dot rfl (NoStar.cons (NoStar.cons NoStar.nil)) (hall1 w hw) hk ?_
    walk_at "ev"
  dsimp only
  have er : ∀ (α : Type) (l : List α) (b : Bool), (l.map fun _ => PyData.bool b) = List.replicate l.length (.bool b) := fun α l b => List.map_const'
  rw [er]
  rw [List.length_append, List.length_map, List.length_range]
  have hol : (mapc (lf s0 s1) (cOther torn)).length ≤ 4 := by rw [mapc_length, cOther, cs_len, List.length_map]; exact htl
  have hpl4 : (mapc (lf s0 s1) (cs torn)).length ≤ 4 := by rw [mapc_length, cs_len]; exact htl
  refine Do.cons (DoS.assign ⟨.inl rfl, nofun⟩ (d := .list (List.replicate (sz + 1) (.bool true) ++ [.bool true, .bool true])) (Ev.bin (d₁ := .list (List.replicate (sz + 1) (.bool true))) ?_ (Ev.list' (ds := [.bool true, .bool true]) ?_ ?_) (Op2L.op (op_addl ?_))) ?_)
  · walk_at "ev"
  · apply Evs.cons' rfl ?_ ?_
    · refine Ev.em W hinj lf_dot rfl (NoStar.cons (NoStar.cons NoStar.nil)) o3 hk ?_
      rw [mapc_app]
      walk_at "ev"
      rw [sizeLine_eq]; omega
    · apply Evs.cons' rfl ?_ Evs.nil
      refine Ev.em W hinj lf_dot rfl (NoStar.cons (NoStar.cons NoStar.nil)) o4 hk ?_
      rw [mapc_app]
      walk_at "ev"
      rw [sizeLine_eq]; omega
  · show 2 ≤ sizeLine; rw [sizeLine_eq]; decide
  · rw [List.length_replicate, sizeLine_eq]; show sz + 1 + 2 ≤ _; omega
  dsimp only
  have hall2 : ∀ w ∈ [cOther torn, cs torn ++ cOther torn, cOther torn ++ cs torn], chkEm w (cs torn) false = true := fun w hw => by
    simp only [List.mem_cons, List.not_mem_nil, or_false] at hw
    rcases hw with rfl | rfl | rfl
    · exact o5
    · exact o6
    · exact o7
  refine Do.cons (DoS.assignCompA (mc := [("plain", .d (.str (mapc (lf s0 s1) (cs torn))))]) (inj := fun w => PyData.str (mapc (lf s0 s1) w)) (g := fun _ => .bool false) (mstr_inj hinj) [cOther torn, cs torn ++ cOther torn, cOther torn ++ cs torn] rfl (by walk_at "seen") (EvI.tup (Ev.tuple' ?_ ?_)) ?_ (fun L' => by exact ⟨.inl rfl, (by intro h; cases h)⟩) rfl (by decide) (fun L' w hw => ?_) rfl ?_)
  · show Evs _ _ _ _ _ [PyData.str (mapc (lf s0 s1) (cOther torn)), .str (mapc (lf s0 s1) (cs torn ++ cOther torn)), .str (mapc (lf s0 s1) (cOther torn ++ cs torn))]
    rw [mapc_app, mapc_app]
    walk_at "ev"
    · rw [sizeLine_eq]; omega
    · rw [sizeLine_eq]; omega
  · show 3 ≤ sizeLine; rw [sizeLine_eq]; decide
  · show 3 ≤ sizeLine; rw [sizeLine_eq]; decide
  · refine Ev.em W hinj lf_dot rfl (NoStar.cons (NoStar.cons NoStar.nil)) (hall2 w hw) hk ?_
    walk_at "ev"
  dsimp only
  rw [er]
  obtain ⟨tk, htk⟩ : ∃ tk : List Bool, tk = List.replicate (sz + 3) true := ⟨_, rfl⟩
  have etk : List.replicate (sz + 1) (PyData.bool true) ++ [.bool true, .bool true] = tk.map .bool := by
    rw [htk, List.map_replicate]; exact List.replicate_append_replicate (n := sz + 1) (m := 2)
  rw [etk]
  refine Do.cons (DoS.for (xs := rng ((sz : Int) - 1).toNat) (fun i => ("refused", .d (.list (List.replicate (3 + 2 * i) (.bool false)))) :: ("taken", .d (.list (tk.map .bool))) :: m19 script T S sz torn s0 s1) "[u" "[v" (by decide) (by refine ⟨?_, ?_, ?_⟩ <;> (intro h; cases h)) (by refine ⟨?_, ?_, ?_⟩ <;> (intro h; cases h))
    ⟨.inl rfl, nofun⟩ ?_ (SubL.sub ?_) (fun i => ⟨rfl, rfl⟩) ⟨rfl, rfl⟩ (fun i d hi bu bv => ?_) ?_)
  · refine EvI.range' W rfl ?_ rfl ?_ (by omega) (by omega)
    · walk_at "ev"
    · walk_at "ev"
  · repeat (first | exact trivial | refine ⟨rfl, ?_⟩)
  · obtain ⟨hir, rfl⟩ : i < torn.length ∧ d = .int (i : Int) := by
      unfold rng at hi
      rw [List.getElem?_map] at hi
      have e : ((sz : Int) - 1).toNat = torn.length := by have := H.tl; omega
      rw [e] at hi
      by_cases h : i < torn.length
      · rw [List.getElem?_range h] at hi
        exact ⟨h, by injection hi with hi; exact hi.symm⟩
      · rw [List.getElem?_eq_none (by rw [List.length_range]; omega)] at hi; cases hi
    have o8i := List.all_eq_true.mp o8 i (List.mem_range.mpr hir)
    rw [Bool.and_eq_true] at o8i
    have hshl : (mapc (lf s0 s1) (cShared torn i)).length ≤ 20 := by have := cShared_len torn i; rw [mapc_length]; omega
    refine Do.cons (DoS.assign ⟨.inl rfl, nofun⟩ (d := .str (mapc (lf s0 s1) (cShared torn i))) (Ev.cast (d' := .str ((Txt.slice (mapc (lf s0 s1) (cs torn)) none (some ((i : Int) + 1)) ++ Str.ofString "...") ++ Txt.slice (mapc (lf s0 s1) (cs torn)) (some (i : Int)) none)) (Ev.bin (Ev.bin (Ev.sliceS ?_ ?_ ?_ hpl) Ev.str (op_adds ?_)) (Ev.sliceS ?_ ?_ ?_ hpl) (op_adds ?_)) ?_) ?_)
    · walk_at "ev"
    · walk_at "ev"
    · walk_at "ev"
    · rw [mapc_slice]; have := hpl2 none (some ((i : Int) + 1)); rw [sizeLine_eq]; show _ + 3 ≤ _; omega
    · walk_at "ev"
    · walk_at "ev"
    · walk_at "ev"
    · rw [mapc_slice, mapc_slice, app_len]; have := hpl2 none (some ((i : Int) + 1)); have := hpl2 (some (i : Int)) none; rw [sizeLine_eq]; show _ + 3 + _ ≤ _; omega
    · rw [mapc_slice, mapc_slice, hdd, ← mapc_app, ← mapc_app]; rfl
    dsimp only
    refine Do.cons (DoS.assign ⟨.inl rfl, nofun⟩ (d := .list (List.replicate (3 + 2 * (i + 1)) (.bool false))) (Ev.cast (d' := .list (List.replicate (3 + 2 * i) (.bool false) ++ [.bool false, .bool false])) (Ev.bin (d₁ := .list (List.replicate (3 + 2 * i) (.bool false))) ?_ (Ev.list' (ds := [.bool false, .bool false]) ?_ ?_) (Op2L.op (op_addl ?_))) ?_) (Do.nil ?_))
    · walk_at "ev"
    · apply Evs.cons' rfl ?_ ?_
      · refine Ev.em W hinj lf_dot rfl (NoStar.cons (NoStar.cons NoStar.nil)) o8i.1 hk ?_
        walk_at "ev"
      · apply Evs.cons' rfl ?_ Evs.nil
        refine Ev.em W hinj lf_dot rfl (NoStar.cons (NoStar.cons NoStar.nil)) o8i.2 hk ?_
        rw [mapc_app, mapc_app, mapc_dots lf_dot]
        walk_at "ev"
        · rw [sizeLine_eq]; show 3 + _ ≤ _; omega
        · rw [app_len, sizeLine_eq]; show 3 + _ + 3 ≤ _; omega
    · show 2 ≤ sizeLine; rw [sizeLine_eq]; decide
    · rw [List.length_replicate, sizeLine_eq]; show _ + 2 ≤ _; omega
    · congr 1
      exact List.replicate_append_replicate (n := 3 + 2 * i) (m := 2)
    dsimp only
    exact SubL.sub (by repeat (first | exact trivial | refine ⟨rfl, ?_⟩))
  · dsimp only
    obtain ⟨nn, hnn, hn5⟩ : ∃ nn, (rng ((sz : Int) - 1).toNat).length = nn ∧ nn ≤ 5 := ⟨_, rfl, by unfold rng; rw [List.length_map, List.length_range]; omega⟩
    rw [hnn]
    obtain ⟨rf, hrf⟩ : ∃ rf : List Bool, rf = List.replicate (3 + 2 * nn) false := ⟨_, rfl⟩
    have erf : List.replicate (3 + 2 * nn) (PyData.bool false) = rf.map .bool := by rw [hrf, List.map_replicate]
    rw [erf]
    have hf1 : ((tk.filter fun b => !(b == true)).map PyData.bool) = [] := by
      rw [List.filter_eq_nil_iff.mpr]; · rfl
      intro b hb h
      rw [htk] at hb
      rw [List.eq_of_mem_replicate hb] at h; cases h
    have hf2 : ((rf.filter fun b => !(b == false)).map PyData.bool) = [] := by
      rw [List.filter_eq_nil_iff.mpr]; · rfl
      intro b hb h
      rw [hrf] at hb
      rw [List.eq_of_mem_replicate hb] at h; cases h
    refine Do.cons (DoS.ite (b := false) (Te.cast (Te.cmp' (d₁ := .list (([] : List Int).map .int)) (d₂ := .list (([] : List Int).map .int)) rfl (Ev.bin (d₁ := .list []) (d₂ := .list []) (Ev.cast (EvL.comp1 (mc := []) (p := fun b => !(b == true)) (g := .bool) bool_inj tk rfl (by walk_at "seen") (EvI.list ?_) ?_ (fun L' => by exact ⟨.inl rfl, (by intro h; cases h)⟩) rfl (by decide) (fun L' b hb => .inr ⟨_, rfl, ?_⟩) (fun L' b hb _ => ?_)).ev (by rw [hf1])) (Ev.cast (EvL.comp1 (mc := []) (p := fun b => !(b == false)) (g := .bool) bool_inj rf rfl (by walk_at "seen") (EvI.list ?_) ?_ (fun L' => by exact ⟨.inl rfl, (by intro h; cases h)⟩) rfl (by decide) (fun L' b hb => .inr ⟨_, rfl, ?_⟩) (fun L' b hb _ => ?_)).ev (by rw [hf2])) (Op2L.op (op_addl (xs := []) (ys := []) (Nat.zero_le _)))) ?_ (op_nei [] [])) (by simp)) (fun h => by cases h) (fun _ => Do.nil ?_))
    · walk_at "ev"
    · rw [htk, List.length_replicate, sizeLine_eq]; omega
    · walk_at "ev"
    · walk_at "ev"
    · walk_at "ev"
    · rw [hrf, List.length_replicate, sizeLine_eq]; omega
    · walk_at "ev"
    · walk_at "ev"
    · walk_at "ev"
    dsimp only
    exact Do.sub rest (SubL.sub (by repeat (first | exact trivial | refine ⟨rfl, ?_⟩)))

theorem six_nat {i n : Nat} (h : i < n) : seqIndex? (i : Int) n = some i := by
  have e1 : ¬ (i : Int) < 0 := by omega
  have e2 : (0 : Int) ≤ i := by omega
  have e3 : (i : Int) < n := by omega
  simp only [seqIndex?, e1, e2, e3, if_false, decide_true, Bool.and_self, if_true, Int.toNat_natCast]
theorem six_last {n : Nat} (h : 1 ≤ n) : seqIndex? (-1) n = some (n - 1) := by
  have e1 : (-1 : Int) < 0 := by decide
  have e2 : (0 : Int) ≤ -1 + n := by omega
  have e3 : -1 + (n : Int) < n := by omega
  simp only [seqIndex?, e1, e2, e3, decide_true, Bool.and_self, if_true]
  congr 1; omega
theorem shp_str {x : Str} (h : (x.cps.all (· < 0x110000)) = true) : Shp (.str x) := by
  refine ⟨?_, ?_⟩
  · rw [PyData.canLay0]; exact h
  · rw [PyData.depth]; omega
theorem shp_fr (n : Nat) : Shp (.str (frOf n)) := by
  unfold frOf; split
  · exact shp_str (by decide +kernel)
  · exact shp_str (by decide +kernel)
theorem shp_bk (n : Nat) : Shp (.str (bkOf n)) := by
  unfold bkOf; split
  · exact shp_str (by decide +kernel)
  · exact shp_str (by decide +kernel)
theorem shp_eps : Shp (.str (Str.ofString "")) := shp_str (by decide +kernel)
theorem bits_len (n sz : Nat) : (bitsOf n sz).length = sz := by rw [bitsOf, List.length_map, List.length_range]
theorem bits_01 (n sz : Nat) : ∀ b ∈ bitsOf n sz, b = 0 ∨ b = 1 := fun b hb => by
  obtain ⟨k, _, rfl⟩ := List.mem_map.mp hb
  have hp : (0 : Int) < 2 ^ k := Int.pow_pos (by decide)
  have h0 : 0 ≤ (n : Int).fdiv (2 ^ k) := by rw [Int.fdiv_eq_ediv_of_nonneg _ (by omega)]; exact Int.ediv_nonneg (by omega) (by omega)
  have := and_mask h0 1
  have e : (2 : Int) ^ 1 - 1 = 1 := by decide
  rw [e] at this
  rw [this]
  have e2 : (2 : Int) ^ 1 = 2 := by decide
  rw [e2]; omega
theorem fr_mod (n : Nat) : frOf (n % 3) = frOf n ∧ bkOf (n % 3) = bkOf n := by
  unfold frOf bkOf; rw [Nat.mod_mod]; exact ⟨rfl, rfl⟩
theorem alike_mod (n : Nat) (t bs : List Int) : alike (n % 3) t bs = alike n t bs := by unfold alike; rw [(fr_mod n).1, (fr_mod n).2]
theorem tape_num {t : List Int} (h : t ∈ tapes) {n : Nat} (hn : n < 2 ^ (t.length + 1)) : okNum t n = true := by
  have := tape_ok h
  unfold okTape at this
  simp only [Bool.and_eq_true] at this
  exact List.all_eq_true.mp this.1.1.2 n (List.mem_range.mpr hn)
theorem sgn_oct {s0 s1 : Nat} (a0 : s0 < 256 ∧ 65 ≤ s0 % 128) (a1 : s1 < 256 ∧ s1 % 128 < 64 ∧ s1 ≠ 46) {bs : List Int} (hb : ∀ b ∈ bs, b = 0 ∨ b = 1) : Oct (bs.map fun b => ((sgn s0 s1 b : Nat) : Int)) := by
  intro n hn
  obtain ⟨b, hb', rfl⟩ := List.mem_map.mp hn
  rcases hb b hb' with rfl | rfl
  · show 0 ≤ (s0 : Int) ∧ (s0 : Int) < 256 ∧ (_ → 1 ≤ (s0 : Int) % 64)
    refine ⟨by omega, by omega, fun _ => by omega⟩
  · show 0 ≤ (s1 : Int) ∧ (s1 : Int) < 256 ∧ (isEnd (s1 : Int) = false → 1 ≤ (s1 : Int) % 64)
    refine ⟨by omega, by omega, fun h => ?_⟩
    rw [isEnd, decide_eq_false_iff_not] at h
    omega
theorem plc_sgn {s0 s1 : Nat} (a0 : s0 < 256 ∧ 65 ≤ s0 % 128) (a1 : s1 < 256 ∧ s1 % 128 < 64 ∧ s1 ≠ 46) : ∀ {bs : List Int} (n : Nat), (∀ b ∈ bs, b = 0 ∨ b = 1) → plc n (bs.map fun b => ((sgn s0 s1 b : Nat) : Int)) = vt n bs
  | [], n, _ => rfl
  | b :: bs, n, h => by
    rw [List.map_cons, plc, vt, plc_sgn a0 a1 (n + 1) fun x hx => h x (.tail _ hx)]
    congr 1
    rcases h b (.head _) with rfl | rfl
    · have e : isEnd ((sgn s0 s1 0 : Nat) : Int) = false := by show isEnd (s0 : Int) = false; rw [isEnd, decide_eq_false_iff_not]; omega
      rw [e]; rfl
    · have e : isEnd ((sgn s0 s1 1 : Nat) : Int) = true := by show isEnd (s1 : Int) = true; rw [isEnd, decide_eq_true_eq]; omega
      rw [e]; rfl
noncomputable def fnd (t : List Int) (i : Nat) : List (Int × List Int) := ((List.range i).filter (said t)).map fun n => (((vt 0 (bitsOf n (t.length + 1)) : Nat) : Int), bitsOf n (t.length + 1))
theorem fnd_no {t : List Int} {i : Nat} (h : said t i = false) : fnd t (i + 1) = fnd t i := by
  unfold fnd; rw [List.range_succ, List.filter_append, List.filter_cons_of_neg (by rw [h]; decide), List.filter_nil, List.append_nil]
theorem fnd_yes {t : List Int} {i : Nat} (h : said t i = true) : fnd t (i + 1) = fnd t i ++ [(((vt 0 (bitsOf i (t.length + 1)) : Nat) : Int), bitsOf i (t.length + 1))] := by
  unfold fnd; rw [List.range_succ, List.filter_append, List.filter_cons_of_pos h, List.filter_nil, List.map_append]; rfl
theorem fnd_len (t : List Int) (i : Nat) : (fnd t i).length ≤ i := by
  unfold fnd; rw [List.length_map]; have := List.length_filter_le (said t) (List.range i); rwa [List.length_range] at this
/-- a letter of signs -/
theorem Ev.sign {C : Cfg} {k : Nat} {env : Env} {m : Mp} {x : Str} {px pos : Pos} {ie : Expr} {s0 s1 : Nat} {b : Int} (hs : m.lookup x = some (.d (.list [.int s0, .int s1]))) (hl : Loc env x) (hb : b = 0 ∨ b = 1) (hi : Ev C k env m ie (.int b)) (hg : ∀ o i, subscripted ie false o i = operate [o, i] (getItem o i))
    (hd : (x == ("__debug__" : Str)) = false := by decide) (hc : (x == ("__classdict__" : Str)) = false := by decide) : Ev C k env m (.Subscript (.Name x px) ie pos) (.int (sgn s0 s1 b : Nat)) := by
  obtain ⟨i1, i2⟩ := sgn_at (s0 := s0) (s1 := s1) hb
  exact Ev.item' hg (Ev.name hs hl hd hc) hi i1 i2 (by show 2 ≤ sizeLine; rw [sizeLine_eq]; decide)

theorem law_d {C : Cfg} (W : Wd C) {script : List Int} {T S : Int} {sz : Nat} {torn : List Int} {s0 s1 : Nat} (H : LF script T S sz torn s0 s1) {k : Nat} (hk : 9 ≤ k) {L a : Addr} {pm code doc : Value} {Q : Fl → Mp → Prop}
    (rest : ∀ fa, Do C C.T k (callEnvC (dLaw.data pm code doc) L a) false (dLaw.body.drop 21) (("found", .L fa ((found torn).map tupd)) :: m6 script T S sz torn s0 s1) Q) :
    Do C C.T k (callEnvC (dLaw.data pm code doc) L a) false (dLaw.body.drop 19) (m19 script T S sz torn s0 s1) Q := by
  have htl : torn.length ≤ 4 := by have := H.tl; have := H.sz5; omega
  have hdd : Str.ofString "..." = mapc (lf s0 s1) dots := (mapc_dots lf_dot).symm
  have hinj := H.inj
  have hsz5 := H.sz5
  have hsz3 := H.sz3
  have htsz := H.tl
  refine Do.cons (DoS.assignL ⟨.inl rfl, nofun⟩ (ds := []) ?_ (fun fa => ?_))
  · exact EvL.list Evs.nil
  dsimp only
  have e2s : (rng ((2 : Int) ^ (sz : Int).toNat).toNat) = (List.range (2 ^ sz)).map fun i : Nat => PyData.int (i : Int) := by
    rw [Int.toNat_natCast, show (2 : Int) ^ sz = ((2 ^ sz : Nat) : Int) by rw [Int.natCast_pow]; rfl]
    exact rng_nat _
  have h2s : 2 ^ sz ≤ 32 := Nat.pow_le_pow_right (by decide) hsz5
  refine Do.cons (DoS.for (xs := rng ((2 : Int) ^ (sz : Int).toNat).toNat) (fun i => ("found", .L fa ((fnd torn i).map tupd)) :: m19 script T S sz torn s0 s1) "[u" "[v" (by decide) (by refine ⟨?_, ?_, ?_⟩ <;> (intro h; cases h)) (by refine ⟨?_, ?_, ?_⟩ <;> (intro h; cases h))
    ⟨.inr rfl, fun _ => ⟨rfl, rfl⟩⟩ ?_ (SubL.sub ?_) (fun i => ⟨rfl, rfl⟩) ⟨rfl, rfl⟩ (fun i d hi bu bv => ?_) ?_)
  · have hp : (2 : Int) ^ (sz : Int).toNat ≤ 32 := by
      rw [Int.toNat_natCast, show (2 : Int) ^ sz = ((2 ^ sz : Nat) : Int) by rw [Int.natCast_pow]; rfl]; omega
    have hp0 : (0 : Int) < (2 : Int) ^ (sz : Int).toNat := Int.pow_pos (by decide)
    refine EvI.range' W rfl ?_ rfl ?_ (by omega) (by omega)
    · walk_at "ev"
    · walk_at "ev"
      · omega
      · have e : Builtin.Int.intBits 2 = 2 := by decide +kernel
        rw [e]; omega
  · repeat (first | exact trivial | refine ⟨rfl, ?_⟩)
  · obtain ⟨hir, rfl⟩ : i < 2 ^ sz ∧ d = .int (i : Int) := by
      rw [e2s, List.getElem?_map] at hi
      by_cases h : i < 2 ^ sz
      · rw [List.getElem?_range h] at hi
        exact ⟨h, by injection hi with hi; exact hi.symm⟩
      · rw [List.getElem?_eq_none (by rw [List.length_range]; omega)] at hi; cases hi
    have ok := tape_num H.tape (n := i) (by rw [htsz]; exact hir)
    unfold okNum at ok
    dsimp only at ok
    rw [htsz] at ok
    obtain ⟨bits, hbits⟩ : ∃ bits, bits = bitsOf i sz := ⟨_, rfl⟩
    have hbl : bits.length = sz := by rw [hbits, bits_len]
    have hb01 : ∀ b ∈ bits, b = 0 ∨ b = 1 := by rw [hbits]; exact bits_01 i sz
    have hsaid : said torn i = ematch (cLoose torn) (cs bits) := by rw [said, htsz, hbits]
    rw [← hbits] at ok
    simp only [Bool.and_eq_true] at ok
    obtain ⟨⟨ok1, ok2⟩, ok3⟩ := ok
    have okh := List.all_eq_true.mp ok2 (script.length % 3) (List.mem_range.mpr (Nat.mod_lt _ (by decide)))
    rw [(fr_mod _).1, (fr_mod _).2, alike_mod] at okh
    obtain ⟨sd, hsd⟩ : ∃ sd, sd = said torn i := ⟨_, rfl⟩
    obtain ⟨al, hal⟩ : ∃ al, al = alike script.length torn bits := ⟨_, rfl⟩
    rw [← hsd, ← hal] at okh
    rw [← hsd] at ok3
    have okl : chkEm (cLoose torn) (cs bits) sd = true := by
      unfold chkEm; rw [ok1, ← hsaid, hsd]; simp
    refine Do.cons (DoS.assignCompA (mc := [("number", .d (.int (i : Int)))]) (g := fun k : Nat => .int (Builtin.bitAnd ((i : Int).fdiv (2 ^ (k : Int).toNat)) 1)) nat_inj (List.range sz) rfl (by walk_at "seen") ?_ ?_ (fun L' => by exact ⟨.inl rfl, (by intro h; cases h)⟩) rfl (by decide) (fun L' p hp => ?_) rfl ?_)
    · rw [← rng_nat]
      refine EvI.range' W rfl ?_ rfl ?_ (by omega) (by omega)
      · walk_at "ev"
      · walk_at "ev"
    · rw [sizeLine_eq, List.length_range]; omega
    · walk_at "ev"
      omega
    dsimp only
    have ebits : ((List.range sz).map fun k : Nat => PyData.int (Builtin.bitAnd ((i : Int).fdiv (2 ^ (k : Int).toNat)) 1)) = bits.map .int := by
      rw [hbits, bitsOf, List.map_map]
      exact List.map_congr_left fun k _ => by rw [Int.toNat_natCast]; rfl
    rw [ebits]
    obtain ⟨ls, hls⟩ : ∃ ls : List Str, ls = bits.map fun b => mapc (lf s0 s1) (cs [b]) := ⟨_, rfl⟩
    have els : (bits.map fun b => PyData.str (mapc (lf s0 s1) (cs [b]))) = ls.map .str := by rw [hls, List.map_map]; rfl
    have hje : Txt.join (Str.ofString "") ls = mapc (lf s0 s1) (cs bits) := by
      have e : ls = (bits.map fun b => cs [b]).map (mapc (lf s0 s1)) := by rw [hls, List.map_map]; rfl
      rw [e]
      have := mapc_join (f := lf s0 s1) eps (bits.map fun b => cs [b])
      rw [mapc_eps, join_eps] at this
      exact this
    refine Do.cons (DoS.assign ⟨.inl rfl, nofun⟩ (d := .str (mapc (lf s0 s1) (cs bits))) (Ev.cast (Ev.joinE (Str.ofString "") ls rfl rfl rfl (NoStar.cons NoStar.nil) Ev.str ?_ (join_ok _ ls (by rw [hls, List.length_map]; omega) (by decide) (fun p hp => ?_))) (by rw [hje])) ?_)
    · apply Evs.cons' rfl ?_ Evs.nil
      rw [← els]
      refine (EvL.compA (mc := [("signs", .d (.list [.int s0, .int s1]))]) (g := fun b => .str (mapc (lf s0 s1) (cs [b]))) int_inj bits rfl (by walk_at "seen") (EvI.list ?_) ?_ (fun L' => by exact ⟨.inl rfl, (by intro h; cases h)⟩) rfl (by decide) (fun L' b hb => ?_)).ev
      · walk_at "ev"
      · rw [sizeLine_eq]; omega
      · rw [← letter_eq (hb01 b hb)]
        refine Ev.bi (ds := [.int (sgn s0 s1 b : Nat)]) W rfl W.chr (by decide) (NoStar.cons NoStar.nil) ?_ (call_chr (by omega) (by have := sgn_bound H.a0.1 H.a1.1 b; omega))
        apply Evs.cons' rfl ?_ Evs.nil
        refine Ev.sign rfl (by first | exact .inr (.inl rfl) | exact .inr (.inr rfl)) (hb01 b hb) ?_ (fun _ _ => rfl)
        walk_at "ev"
    · rw [hls] at hp
      obtain ⟨b, _, rfl⟩ := List.mem_map.mp hp
      rw [mapc_length, cs_len]; exact Nat.le_refl _
    dsimp only
    refine Do.cons (DoS.assign ⟨.inl rfl, nofun⟩ (d := .bool sd) (Ev.em W hinj lf_dot rfl (NoStar.cons (NoStar.cons NoStar.nil)) okl (by omega) ?_) ?_)
    · walk_at "ev"
    dsimp only
    refine Do.cons (DoS.ite (b := false) (Te.cast (Te.and2 (b₁ := !(sd == true)) (b₂ := !(sd == false)) ?_ (fun _ => ?_)) (by cases sd <;> rfl)) (fun h => by cases h) (fun _ => Do.nil ?_))
    · walk_at "ev"
    · walk_at "ev"
    dsimp only
    have hd0 : (bits.map PyData.int)[0]? = some (.int (bits.headD 0)) := by
      cases hb : bits with
      | nil => rw [hb] at hbl; simp at hbl; omega
      | cons b r => rfl
    have ht0 : (torn.map PyData.int)[0]? = some (.int (torn.headD 0)) := by
      cases hb : torn with
      | nil => rw [hb] at htsz; simp at htsz; omega
      | cons b r => rfl
    have last_of : ∀ l : List Int, 1 ≤ l.length → (l.map PyData.int)[(l.map PyData.int).length - 1]? = some (.int (l.getLastD 0)) := fun l h => by
      rw [List.length_map, List.getElem?_map, ← List.getLast?_eq_getElem?]
      cases l with
      | nil => cases h
      | cons b r => rw [List.getLast?_cons, List.getLastD_cons, List.getLastD_eq_getLast?]; rfl
    have hbL : (bits.map PyData.int).length = sz := by rw [List.length_map, hbl]
    have htL : (torn.map PyData.int).length = torn.length := by rw [List.length_map]
    refine Do.cons (DoS.assign ⟨.inl rfl, nofun⟩ (d := .bool al) (Ev.and (d₁ := .bool ((frOf script.length != eps) || (bits.headD 0 == torn.headD 0))) (b := ((frOf script.length != eps) || (bits.headD 0 == torn.headD 0))) (Ev.or (d₁ := .bool (frOf script.length != eps)) (b := (frOf script.length != eps)) ?_ t_bool (fun h1 => ?_) (fun h1 => by rw [h1]; rfl)) t_bool (fun h2 => Ev.or (d₁ := .bool (bkOf script.length != eps)) (b := (bkOf script.length != eps)) ?_ t_bool (fun h1 => ?_) (fun h1 => by rw [hal, alike, h2, h1]; rfl)) (fun h2 => by rw [hal, alike, h2]; rfl)) ?_)
    · refine Ev.cmp' rfl ?_ ?_ (op_ned (shp_fr _) shp_eps)
      · walk_at "ev"
      · walk_at "ev"
    · rw [h1, Bool.false_or]
      refine Ev.cmp' rfl (Ev.item' (fun _ _ => rfl) ?_ ?_ (six_nat (i := 0) (by rw [hbL]; omega)) hd0 (by rw [hbL, sizeLine_eq]; omega)) (Ev.item' (fun _ _ => rfl) ?_ ?_ (six_nat (i := 0) (by rw [htL]; omega)) ht0 (by rw [htL, sizeLine_eq]; omega)) op_eq
      · walk_at "ev"
      · walk_at "ev"
      · walk_at "ev"
      · walk_at "ev"
    · refine Ev.cmp' rfl ?_ ?_ (op_ned (shp_bk _) shp_eps)
      · walk_at "ev"
      · walk_at "ev"
    · have e : al = (bits.getLastD 0 == torn.getLastD 0) := by rw [hal, alike, h2, h1]; rfl
      rw [e]
      refine Ev.cmp' rfl (Ev.item' (i := -1) (fun _ _ => rfl) ?_ ?_ (six_last (by rw [hbL]; omega)) (last_of bits (by omega)) (by rw [hbL, sizeLine_eq]; omega)) (Ev.item' (i := -1) (fun _ _ => rfl) ?_ ?_ (six_last (by rw [htL]; omega)) (last_of torn (by omega)) (by rw [htL, sizeLine_eq]; omega)) op_eq
      · walk_at "ev"
      · walk_at "ev"
      · walk_at "ev"
      · walk_at "ev"
    dsimp only
    refine Do.cons (DoS.ite (b := false) (Te.cast (Te.cmp' (d₁ := .bool (sd && al)) (d₂ := .bool (sd && al)) rfl (Ev.em W hinj lf_dot rfl (NoStar.cons (NoStar.cons NoStar.nil)) okh (by omega) ?_) (Ev.and (d₁ := .bool sd) (b := sd) ?_ t_bool (fun h => ?_) (fun h => by rw [h]; rfl)) op_isnotb) (by cases sd <;> cases al <;> rfl)) (fun h => by cases h) (fun _ => Do.nil ?_))
    · walk_at "ev"
    · walk_at "ev"
    · rw [h, Bool.true_and]; walk_at "ev"
    dsimp only
    refine Do.cons (DoS.ite (b := sd) ?_ (fun hy => ?_) (fun hn => Do.nil ?_))
    · walk_at "ev"
    · rw [hy, Bool.not_true, Bool.false_or, Bool.and_eq_true] at ok3
      obtain ⟨okp, okg⟩ := ok3
      refine Do.cons (DoS.ite (b := false) (Te.cast (Te.cmp' (d₁ := .bool false) (d₂ := .bool false) rfl (Ev.em W hinj lf_dot rfl (NoStar.cons (NoStar.cons NoStar.nil)) okp (by omega) ?_) ?_ op_isnotb) rfl) (fun h => by cases h) (fun _ => Do.nil ?_))
      · walk_at "ev"
      · walk_at "ev"
      dsimp only
      refine Do.cons (DoS.for (xs := rng (sz : Int).toNat) (fun j => ("[u", bu) :: ("[v", bv) :: ("bits", .d (.list (bits.map .int))) :: ("text", .d (.str (mapc (lf s0 s1) (cs bits)))) :: ("found", .L fa ((fnd torn i).map tupd)) :: m19 script T S sz torn s0 s1) "[s" "[t" (by decide) (by refine ⟨?_, ?_, ?_⟩ <;> (intro h; cases h)) (by refine ⟨?_, ?_, ?_⟩ <;> (intro h; cases h))
        ⟨.inl rfl, nofun⟩ ?_ (SubL.sub ?_) (fun i => ⟨rfl, rfl⟩) ⟨rfl, rfl⟩ (fun j d hj bs bt => ?_) ?_)
      · refine EvI.range' W rfl ?_ rfl ?_ (by omega) (by omega)
        · walk_at "ev"
        · walk_at "ev"
      · repeat (first | exact trivial | refine ⟨rfl, ?_⟩)
      · obtain ⟨hjr, rfl⟩ : j < sz ∧ d = .int (j : Int) := by
          rw [rng_nat, List.getElem?_map] at hj
          by_cases h : j < sz
          · rw [List.getElem?_range h] at hj
            exact ⟨h, by injection hj with hj; exact hj.symm⟩
          · rw [List.getElem?_eq_none (by rw [List.length_range]; omega)] at hj; cases hj
        have okj := List.all_eq_true.mp okg j (List.mem_range.mpr hjr)
        have hbmL : (bits.map PyData.int).length ≤ sizeLine := by rw [hbL, sizeLine_eq]; omega
        refine Do.cons (DoS.ite (b := false) (Te.cast (Te.cmp' (d₁ := .bool (decide (bits.take j ++ bits.drop (j + 1) = torn))) (d₂ := .bool (decide (bits.take j ++ bits.drop (j + 1) = torn))) rfl (Ev.em W hinj lf_dot rfl (NoStar.cons (NoStar.cons NoStar.nil)) okj (by omega) ?_) (Ev.cmp' (d₁ := .list ((bits.take j ++ bits.drop (j + 1)).map .int)) (d₂ := .list (torn.map .int)) rfl (Ev.cast (d' := .list ((bits.map PyData.int).take j ++ (bits.map PyData.int).drop (j + 1))) (Ev.bin (d₁ := .list ((bits.map PyData.int).take j)) (d₂ := .list ((bits.map PyData.int).drop (j + 1))) (Ev.cast (d' := .list (dpick (bits.map .int) none (some (j : Int)) none)) ?_ (by rw [dpick_to])) (Ev.cast (d' := .list (dpick (bits.map .int) (some ((j : Int) + 1)) none none)) ?_ (by rw [show (j : Int) + 1 = ((j + 1 : Nat) : Int) by omega, dpick_from])) (Op2L.op (op_addl ?_))) (by rw [List.map_append, List.map_take, List.map_drop])) ?_ (op_eqi _ _)) op_isnotb) (by simp)) (fun h => by cases h) (fun _ => Do.nil ?_))
        · apply Evs.cons' rfl ?_ ?_
          · refine Ev.item' (xs := (List.range sz).map fun p => PyData.str (mapc (lf s0 s1) (cGap torn p))) (j := j) (fun _ _ => rfl) ?_ ?_ (six_nat (i := j) (by rw [List.length_map, List.length_range]; exact hjr)) (by rw [List.getElem?_map, List.getElem?_range hjr]; rfl) (by rw [List.length_map, List.length_range, sizeLine_eq]; omega)
            · walk_at "ev"
            · walk_at "ev"
          · walk_at "ev"
        · refine Ev.slice' (fun _ _ => ⟨_, rfl⟩) ?_ ?_ ?_ ?_ hbmL (by nofun)
          · walk_at "ev"
          · walk_at "ev"
          · walk_at "ev"
          · walk_at "ev"
        · refine Ev.slice' (fun _ _ => ⟨_, rfl⟩) ?_ ?_ ?_ ?_ hbmL (by nofun)
          · walk_at "ev"
          · walk_at "ev"
          · walk_at "ev"
          · walk_at "ev"
        · rw [List.length_take, List.length_drop, hbL, sizeLine_eq]; omega
        · walk_at "ev"
        dsimp only
        refine Do.nil ?_
        dsimp only
        exact SubL.sub (by repeat (first | exact trivial | refine ⟨rfl, ?_⟩))
      · dsimp only
        have hfl := fnd_len torn i
        refine Do.cons (DoS.append (d := tupd (((vt 0 bits : Nat) : Int), bits)) rfl (.inl rfl) (Ev.tuple' (ds := [.int ((vt 0 bits : Nat) : Int), .list (bits.map .int)]) ?_ ?_) (NoStar.cons NoStar.nil) (by rw [List.length_map, sizeLine_eq]; omega) (Do.nil ?_))
        · apply Evs.cons' rfl ?_ ?_
          · rw [← plc_sgn H.a0 H.a1 0 hb01]
            refine Ev.fn (ds := [.list ((bits.map fun b => ((sgn s0 s1 b : Nat) : Int)).map .int)]) W W.hChk rfl rfl rfl (NoStar.cons NoStar.nil) ?_ (check_spec W (by rw [List.length_map]; omega) (sgn_oct H.a0 H.a1 hb01)) hk
            apply Evs.cons' rfl ?_ Evs.nil
            rw [List.map_map]
            refine (EvL.compA (mc := [("signs", .d (.list [.int s0, .int s1]))]) (g := fun b => .int ((sgn s0 s1 b : Nat) : Int)) int_inj bits rfl (by walk_at "seen") (EvI.list ?_) ?_ (fun L' => by exact ⟨.inl rfl, (by intro h; cases h)⟩) rfl (by decide) (fun L' b hb => ?_)).ev
            · walk_at "ev"
            · rw [sizeLine_eq]; omega
            · refine Ev.sign rfl (by first | exact .inr (.inl rfl) | exact .inr (.inr rfl)) (hb01 b hb) ?_ (fun _ _ => rfl)
              walk_at "ev"
          · walk_at "ev"
        · show 2 ≤ sizeLine; rw [sizeLine_eq]; decide
        dsimp only
        refine Do.nil ?_
        dsimp only
        have ef : (fnd torn (i + 1)).map tupd = (fnd torn i).map tupd ++ [tupd (((vt 0 bits : Nat) : Int), bits)] := by
          rw [fnd_yes (by rw [← hsd]; exact hy), htsz, ← hbits, List.map_append]; rfl
        rw [ef]
        exact SubL.sub (by repeat (first | exact trivial | refine ⟨rfl, ?_⟩))
    · dsimp only
      refine Do.nil ?_
      dsimp only
      rw [fnd_no (by rw [← hsd]; exact hn)]
      exact SubL.sub (by repeat (first | exact trivial | refine ⟨rfl, ?_⟩))
  · dsimp only
    rw [e2s, List.length_map, List.length_range]
    have ef : fnd torn (2 ^ sz) = found torn := by unfold fnd found; rw [htsz]
    rw [ef]
    exact Do.sub (rest fa) (SubL.sub (by repeat (first | exact trivial | refine ⟨rfl, ?_⟩)))

theorem tupd_inj : ∀ a b : Int × List Int, tupd a = tupd b → a = b := fun a b h => by
  obtain ⟨a1, a2⟩ := a; obtain ⟨b1, b2⟩ := b
  injection h with h
  injection h with h1 h2
  injection h2 with h2 h3
  have q1 : a1 = b1 := int_inj _ _ h1
  have q2 : a2 = b2 := ints_inj _ _ h2
  rw [q1, q2]
theorem lay_tups : ∀ ts : List (Int × List Int), PyData.canLayAll0 (ts.map tupd) = true ∧ PyData.depthAll (ts.map tupd) ≤ 2
  | [] => ⟨rfl, Nat.zero_le _⟩
  | t :: ts => by
    obtain ⟨h1, h2⟩ := lay_tups ts
    obtain ⟨s1, s2⟩ := shp_ints t.2
    have d0 : PyData.depth (.list (t.2.map .int)) ≤ 1 := by
      have : PyData.depthAll (t.2.map .int) = 0 := by
        induction t.2 with
        | nil => rfl
        | cons n ns ih => rw [List.map_cons, PyData.depthAll, ih]; rfl
      rw [PyData.depth, this]; exact Nat.le_refl _
    refine ⟨?_, ?_⟩
    · rw [List.map_cons, PyData.canLayAll0, h1, Bool.and_true, tupd, PyData.canLay0, PyData.canLayAll0, PyData.canLayAll0, s1]; rfl
    · rw [List.map_cons, PyData.depthAll, tupd, PyData.depth, PyData.depthAll, PyData.depthAll]
      have e1 : PyData.depth (.int t.1) = 0 := by rw [PyData.depth]
      have e2 : PyData.depthAll [] = 0 := by rw [PyData.depthAll]
      rw [e1, e2]
      omega
theorem shp_tups (ts : List (Int × List Int)) : Shp (.list (ts.map tupd)) := by
  obtain ⟨h1, h2⟩ := lay_tups ts
  exact ⟨by rw [PyData.canLay0]; exact h1, by rw [PyData.depth]; omega⟩
theorem eqv_same {d : PyData} (h : Shp d) : PyData.eqv d d = true := SeqAt.eqv_refl d h.1
theorem vt_le : ∀ (bs : List Int) (n : Nat), vt n bs ≤ bs.length * (n + bs.length)
  | [], n => Nat.zero_le _
  | b :: bs, n => by
    have h := vt_le bs (n + 1)
    rw [vt, List.length_cons, Nat.succ_mul]
    have e : n + 1 + bs.length = n + (bs.length + 1) := by omega
    rw [e] at h
    split <;> omega
section
variable {C : Cfg} {k : Nat} {env : Env} {m mc : Mp}
theorem EvL.comp2 {x y : Str} {p1 p2 p3 : Pos} {kk : Nat} {iter : Expr} {elt : Expr} {scope : Scope} {pos : Pos} {g : Int × List Int → PyData} (src : List (Int × List Int)) (ok : compOk scope env = true) (sn : Seen scope m mc) (hit : EvI C k env m iter (src.map tupd)) (hsz : src.length ≤ sizeLine)
    (hx : ∀ L', CanBind (compEnvC scope (closOf env scope.names []) L' env) true x) (hy : ∀ L', CanBind (compEnvC scope (closOf env scope.names []) L' env) true y) (hmc : mc.lookup x = none ∧ mc.lookup y = none) (hk : (x ≠ kI ∧ x ≠ kS ∧ x ≠ kA) ∧ (y ≠ kI ∧ y ≠ kS ∧ y ≠ kA))
    (he : ∀ L' a, a ∈ src → Ev C k (compEnvC scope (closOf env scope.names []) L' env) ((y, .d (.list (a.2.map .int))) :: (x, .d (.int a.1)) :: mc) elt (g a))
    (hfs : ∀ x, foldedSetIterable iter env x = pure x := by intro _; rfl) : EvL C k env m (.ListComp elt [⟨.Tuple [.Name x p1, .Name y p2] kk p3, iter, [], 0⟩] scope pos) (src.map g) := by
  have := EvL.comp (pos := pos) (elt := elt) (target := .Tuple [.Name x p1, .Name y p2] kk p3) (ifs := []) (tst := liftT tupd fun _ => true) (f := liftF tupd g) ok sn hit (fun L' d hd => ?_) (by rw [List.length_map]; exact hsz) hfs
  · rwa [outs_lift tupd_inj, List.filter_eq_self.mpr fun _ _ => rfl] at this
  · obtain ⟨a, ha, rfl⟩ := List.mem_map.mp hd
    refine ⟨[(y, .d (.list (a.2.map .int))), (x, .d (.int a.1))], fun m => Asg.two (hx L') (hy L'), fun z hz => ?_, fun z hz => ?_, .inl ⟨rfl, by rw [liftT_at tupd_inj]⟩, fun _ => ?_⟩
    · by_cases h : z = y
      · rw [h]; exact hmc.2
      · by_cases h2 : z = x
        · rw [h2]; exact hmc.1
        · exact absurd (by rw [lk_ne h, lk_ne h2]; rfl) hz
    · have h1 : z ≠ y := hz.elim (fun q => q ▸ hk.2.1.symm) fun q => q.elim (fun q => q ▸ hk.2.2.1.symm) fun q => q ▸ hk.2.2.2.symm
      have h2 : z ≠ x := hz.elim (fun q => q ▸ hk.1.1.symm) fun q => q.elim (fun q => q ▸ hk.1.2.1.symm) fun q => q ▸ hk.1.2.2.symm
      rw [lk_ne h1, lk_ne h2]; rfl
    · rw [liftF_at tupd_inj]; exact he L' a ha
end
theorem tape_sort {t : List Int} (h : t ∈ tapes) : ∃ p, sortP (rests t) = some p ∧ (∀ i ∈ p.toList, i < (rests t).length) ∧ (p.toList.map fun i => (rests t).getD i (0, [])) = (List.range (t.length + 2)).map fun (r : Nat) => ((r : Int), mend t (((r : Int) - own t).fmod ((t.length : Int) + 2))) := by
  have := tape_ok h
  unfold okTape at this
  simp only [Bool.and_eq_true] at this
  have h2 := this.1.2
  unfold okSort at h2
  cases e : sortP (rests t) with
  | none => rw [e] at h2; cases h2
  | some p =>
    rw [e] at h2
    dsimp only at h2
    rw [Bool.and_eq_true, decide_eq_true_eq] at h2
    exact ⟨p, rfl, fun i hi => of_decide_eq_true (List.all_eq_true.mp h2.1 i hi), h2.2⟩
theorem tape_count {t : List Int} (h : t ∈ tapes) : (found t).length = t.length + 2 ∧ ((List.range 16).map fun (c : Nat) => (((((found t).map (·.1)).count (c : Int) : Nat)) : Int)) = ((List.range 16).map fun c => if own t ≤ c ∧ c < own t + (t.length + 2) then 1 else 0) ∧ own t + (t.length + 2) ≤ 16 ∧ own t ≤ 10 := by
  have := tape_ok h
  unfold okTape at this
  simp only [Bool.and_eq_true] at this
  have h2 := this.2
  unfold okCount at h2
  simp only [Bool.and_eq_true, decide_eq_true_eq] at h2
  exact ⟨h2.1.1.1, h2.1.1.2, h2.1.2, h2.2⟩
noncomputable abbrev m26 (script : List Int) (T S : Int) (sz : Nat) (torn : List Int) : Mp :=
  [("checks", .d (.list (((found torn).map (·.1)).map .int))), ("own", .d (.int (own torn : Nat))), ("torn", .d (.list (torn.map .int))), ("size", .d (.int sz)), ("spread", .d (.int S)), ("total", .d (.int T)), ("script", .d (.list (script.map .int)))]
theorem found_vt {t : List Int} : ∀ c ∈ found t, ∃ n, c = (((vt 0 (bitsOf n (t.length + 1)) : Nat) : Int), bitsOf n (t.length + 1)) := fun c hc => by
  obtain ⟨n, _, rfl⟩ := List.mem_map.mp hc
  exact ⟨n, rfl⟩
theorem small_bits {x : Int} (h : x.natAbs < 1024) : Builtin.Int.intBits x ≤ 32768 := Nat.le_trans (bits_le (k := 10) h) (by decide)
theorem small_bits2 {x : Int} (h : x.natAbs < 1024) : Builtin.Int.intBits x ≤ 15997 := Nat.le_trans (bits_le (k := 10) h) (by decide)
theorem law_e {C : Cfg} (W : Wd C) {script : List Int} {T S : Int} {sz : Nat} {torn : List Int} {s0 s1 : Nat} (H : LF script T S sz torn s0 s1) {k : Nat} (hk : 21 ≤ k) {L a fa : Addr} {pm code doc : Value} {Q : Fl → Mp → Prop}
    (rest : Do C C.T k (callEnvC (dLaw.data pm code doc) L a) false (dLaw.body.drop 26) (m26 script T S sz torn) Q) :
    Do C C.T k (callEnvC (dLaw.data pm code doc) L a) false (dLaw.body.drop 21) (("found", .L fa ((found torn).map tupd)) :: m6 script T S sz torn s0 s1) Q := by
  have htl : torn.length ≤ 4 := by have := H.tl; have := H.sz5; omega
  have hsz5 := H.sz5
  have hsz3 := H.sz3
  have htsz := H.tl
  obtain ⟨cl, _, cl3, cl4⟩ := tape_count H.tape
  have hflen : (found torn).length = sz + 1 := by omega
  have hfl : ∀ c ∈ found torn, 0 ≤ c.1 ∧ c.1 < 100 := fun c hc => by
    obtain ⟨n, rfl⟩ := found_vt c hc
    have h1 := vt_le (bitsOf n (torn.length + 1)) 0
    rw [bits_len] at h1
    have h2 : (torn.length + 1) * (0 + (torn.length + 1)) ≤ 5 * 5 := Nat.mul_le_mul (by omega) (by omega)
    exact ⟨by omega, by omega⟩
  refine Do.freeze (x := "found") (a := fa) rfl ?_
  refine Do.cons (DoS.assign ⟨.inr rfl, fun _ => ⟨rfl, rfl⟩⟩ (d := .int (own torn : Nat)) ?_ ?_)
  · rw [own, ← plc_sgn H.a0 H.a1 0 H.bit]
    refine Ev.fn (ds := [.list ((torn.map fun b => ((sgn s0 s1 b : Nat) : Int)).map .int)]) W W.hChk rfl rfl rfl (NoStar.cons NoStar.nil) ?_ (check_spec W (by rw [List.length_map]; omega) (sgn_oct H.a0 H.a1 H.bit)) (by omega)
    apply Evs.cons' rfl ?_ Evs.nil
    rw [List.map_map]
    refine (EvL.compA (mc := [("signs", .d (.list [.int s0, .int s1]))]) (g := fun b => .int ((sgn s0 s1 b : Nat) : Int)) int_inj torn rfl (by walk_at "seen") (EvI.list ?_) ?_ (fun L' => by exact ⟨.inl rfl, (by intro h; cases h)⟩) rfl (by decide) (fun L' b hb => ?_)).ev
    · walk_at "ev"
    · rw [sizeLine_eq]; omega
    · refine Ev.sign rfl (by first | exact .inr (.inl rfl) | exact .inr (.inr rfl)) (H.bit b hb) ?_ (fun _ _ => rfl)
      walk_at "ev"
  dsimp only
  refine Do.cons (DoS.assign ⟨.inr rfl, fun _ => ⟨rfl, rfl⟩⟩ (d := .list (((found torn).map (·.1)).map .int)) (Ev.cast (EvL.comp2 (mc := []) (g := fun c => .int c.1) (found torn) rfl (by walk_at "seen") (EvI.list ?_) ?_ (fun L' => by exact ⟨.inl rfl, (by intro h; cases h)⟩) (fun L' => by exact ⟨.inl rfl, (by intro h; cases h)⟩) ⟨rfl, rfl⟩ (by decide) (fun L' c hc => ?_)).ev ?_) ?_)
  · walk_at "ev"
  · rw [hflen, sizeLine_eq]; omega
  · walk_at "ev"
  · rw [List.map_map]; rfl
  dsimp only
  have hneg : ((((found torn).map (·.1)).filter fun c => decide (c < 0)).map PyData.int) = [] := by
    rw [List.filter_eq_nil_iff.mpr]; · rfl
    intro c hc h
    obtain ⟨x, hx, rfl⟩ := List.mem_map.mp hc
    have := hfl x hx
    have := of_decide_eq_true h
    omega
  refine Do.cons (DoS.ite (b := false) (Te.cast (Te.or2 (b₁ := decide (((own torn : Nat) : Int) < 0)) (b₂ := false) ?_ (fun _ => Te.cast (Te.cmp' (d₁ := .list (([] : List Int).map .int)) (d₂ := .list (([] : List Int).map .int)) rfl (Ev.cast (EvL.comp1 (mc := []) (p := fun c => decide (c < 0)) (g := .int) int_inj ((found torn).map (·.1)) rfl (by walk_at "seen") (EvI.list ?_) ?_ (fun L' => by exact ⟨.inl rfl, (by intro h; cases h)⟩) rfl (by decide) (fun L' c hc => .inr ⟨_, rfl, ?_⟩) (fun L' c hc _ => ?_)).ev (by rw [hneg]; rfl)) ?_ (op_nei [] [])) (by simp))) (by rw [decide_eq_false (by omega)]; rfl)) (fun h => by cases h) (fun _ => Do.nil ?_))
  · walk_at "ev"
  · walk_at "ev"
  · rw [List.length_map, hflen, sizeLine_eq]; omega
  · walk_at "ev"
  · walk_at "ev"
  · walk_at "ev"
  dsimp only
  obtain ⟨p, p1, p2, p3⟩ := tape_sort H.tape
  have hrl : (rests torn).length = sz + 1 := by rw [rests, List.length_map, hflen]
  have hst : ∀ x : Int, x.natAbs < 1000 → SpecM C W 21 x ((sz : Int) + 1) := fun x hx => dm_spec W (by omega) (small_bits (by omega)) (small_bits2 (by omega))
  have two : ∀ (u v : Int) (l : List PyData), [PyData.int u, .int v][1]? = some (.int v) := fun u v l => rfl
  refine Do.cons (DoS.assign ⟨.inl rfl, nofun⟩ (d := .list ((p.toList.map fun i => (rests torn).getD i (0, [])).map tupd)) (Ev.bi (ds := [.list ((rests torn).map tupd)]) W rfl W.sorted (by decide) (NoStar.cons NoStar.nil) ?_ (call_sorted (by omega) (by omega) p1 p2)) ?_)
  · apply Evs.cons' rfl ?_ Evs.nil
    rw [show (rests torn).map tupd = (found torn).map (tupd ∘ fun c => (c.1.fmod ((torn.length : Int) + 2), c.2)) by rw [rests, List.map_map]]
    refine (EvL.comp2 (mc := [("size", .d (.int sz))]) (g := tupd ∘ fun c => (c.1.fmod ((torn.length : Int) + 2), c.2)) (found torn) rfl (by walk_at "seen") (EvI.list ?_) ?_ (fun L' => by exact ⟨.inl rfl, (by intro h; cases h)⟩) (fun L' => by exact ⟨.inl rfl, (by intro h; cases h)⟩) ⟨rfl, rfl⟩ (by decide) (fun L' c hc => ?_)).ev
    · walk_at "ev"
    · rw [hflen, sizeLine_eq]; omega
    · have hc1 := hfl c hc
      refine Ev.tuple' (ds := [.int (c.1.fmod ((torn.length : Int) + 2)), .list (c.2.map .int)]) ?_ (by show 2 ≤ sizeLine; rw [sizeLine_eq]; decide)
      apply Evs.cons' rfl ?_ ?_
      · rw [show (torn.length : Int) + 2 = (sz : Int) + 1 by omega]
        refine Ev.itemT' (xs := [.int (c.1.fdiv ((sz : Int) + 1)), .int (c.1.fmod ((sz : Int) + 1))]) (i := 1) (j := 1) (fun _ _ => rfl) (Ev.fn (ds := [.int c.1, .int ((sz : Int) + 1)]) W W.hDM rfl rfl rfl (NoStar.cons (NoStar.cons NoStar.nil)) ?_ (hst c.1 (by omega)) hk) ?_ rfl rfl (by decide) (by decide)
        · walk_at "ev"
        · walk_at "ev"
      · walk_at "ev"
  dsimp only
  rw [p3]
  obtain ⟨tl, htl'⟩ : ∃ tl : List (Int × List Int), tl = (List.range (torn.length + 2)).map fun (r : Nat) => ((r : Int), mend torn (((r : Int) - own torn).fmod ((torn.length : Int) + 2))) := ⟨_, rfl⟩
  rw [← htl']
  have hpk : ∀ q ≤ torn.length, (ipick torn (some (q : Int)) none none).length ≤ 1000 ∧ (ipick torn none (some (q : Int)) none).length ≤ 1000 := fun q _ => by
    rw [ipick_eq, ipick_eq]
    refine ⟨?_, ?_⟩ <;> (rw [List.length_take, List.length_drop]; omega)
  refine Do.cons (DoS.ite (b := false) (Te.cast (Te.cmp' (d₁ := .list (tl.map tupd)) (d₂ := .list (tl.map tupd)) rfl ?_ (Ev.cast (EvL.compA (mc := [("own", .d (.int (own torn : Nat))), ("size", .d (.int sz)), ("torn", .d (.list (torn.map .int)))]) (g := fun r : Nat => tupd ((r : Int), mend torn (((r : Int) - own torn).fmod ((torn.length : Int) + 2)))) nat_inj (List.range (sz + 1)) rfl (by walk_at "seen") ?_ ?_ (fun L' => by exact ⟨.inl rfl, (by intro h; cases h)⟩) rfl (by decide) (fun L' r hr => ?_)).ev ?_) (op_ned (shp_tups tl) (shp_tups tl))) (by rw [eqv_same (shp_tups tl)]; rfl)) (fun h => by cases h) (fun _ => Do.nil ?_))
  · walk_at "ev"
  · rw [← rng_nat, show ((sz + 1 : Nat) : Int) = (sz : Int) + 1 by omega]
    refine EvI.range' W rfl ?_ rfl ?_ (by omega) (by omega)
    · walk_at "ev"
    · walk_at "ev"
  · rw [sizeLine_eq, List.length_range]; omega
  · have hr' := List.mem_range.mp hr
    refine Ev.tuple' (ds := [.int (r : Int), .list ((mend torn (((r : Int) - own torn).fmod ((torn.length : Int) + 2))).map .int)]) ?_ (by show 2 ≤ sizeLine; rw [sizeLine_eq]; decide)
    apply Evs.cons' rfl ?_ ?_
    · walk_at "ev"
    · apply Evs.cons' rfl ?_ Evs.nil
      rw [show (torn.length : Int) + 2 = (sz : Int) + 1 by omega]
      refine Ev.fn (ds := [.list (torn.map .int), .int (((r : Int) - own torn).fmod ((sz : Int) + 1))]) W W.hMend rfl rfl rfl (NoStar.cons (NoStar.cons NoStar.nil)) ?_ (mend_spec W (by omega) hpk) (by omega)
      apply Evs.cons' rfl ?_ ?_
      · walk_at "ev"
      · apply Evs.cons' rfl ?_ Evs.nil
        refine Ev.itemT' (xs := [.int (((r : Int) - own torn).fdiv ((sz : Int) + 1)), .int (((r : Int) - own torn).fmod ((sz : Int) + 1))]) (i := 1) (j := 1) (fun _ _ => rfl) (Ev.fn (ds := [.int ((r : Int) - own torn), .int ((sz : Int) + 1)]) W W.hDM rfl rfl rfl (NoStar.cons (NoStar.cons NoStar.nil)) ?_ (hst _ (by omega)) hk) ?_ rfl rfl (by decide) (by decide)
        · walk_at "ev"
        · walk_at "ev"
  · rw [htl', List.map_map, show torn.length + 2 = sz + 1 by omega]; rfl
  dsimp only
  exact Do.sub rest (SubL.sub (by repeat (first | exact trivial | refine ⟨rfl, ?_⟩)))

/-- n ones to the base 2^w -/
noncomputable abbrev rep (w n : Nat) : Int := valD w (List.replicate n 1)
theorem rep_succ (w n : Nat) : rep w (n + 1) = 1 + 2 ^ w * rep w n := by
  show valD w (List.replicate (n + 1) 1) = _
  rw [List.replicate_succ, valD]
theorem rep_mul (w : Nat) : ∀ n, (2 ^ w - 1) * rep w n = 2 ^ (w * n) - 1
  | 0 => by show (2 ^ w - 1) * valD w [] = _; rw [valD]; simp
  | n + 1 => by
    have ih := rep_mul w n
    rw [rep_succ, Nat.mul_succ, nat_pow_add, Int.mul_add, Int.mul_one, ← Int.mul_assoc, Int.mul_comm (2 ^ w - 1) (2 ^ w), Int.mul_assoc, ih, Int.mul_sub, Int.mul_one, Int.mul_comm (2 ^ (w * n)) (2 ^ w)]
    omega
theorem rep_nonneg (w n : Nat) : 0 ≤ rep w n := by
  induction n with
  | zero => show 0 ≤ valD w []; rw [valD]; exact Int.le_refl _
  | succ n ih =>
    rw [rep_succ]
    have h := Int.mul_nonneg (Int.le_of_lt (two_pos w)) ih
    omega
theorem rep_low (w n : Nat) : 2 ^ (w * n) ≤ rep w (n + 1) := by
  induction n with
  | zero =>
    rw [rep_succ, Nat.mul_zero]
    have := Int.mul_nonneg (Int.le_of_lt (two_pos w)) (rep_nonneg w 0)
    show 1 ≤ _
    omega
  | succ n ih =>
    rw [rep_succ, Nat.mul_succ, nat_pow_add]
    have := Int.mul_le_mul_of_nonneg_left ih (Int.le_of_lt (two_pos w))
    rw [Int.mul_comm (2 ^ (w * n))]
    omega
theorem pow4 {w : Nat} (hw : 2 ≤ w) : (4 : Int) ≤ 2 ^ w := by
  have h := Nat.pow_le_pow_right (n := 2) (by decide) hw
  have h2 : ((2 ^ w : Nat) : Int) = (2 : Int) ^ w := by rw [Int.natCast_pow]; rfl
  have h3 : (2 : Nat) ^ 2 = 4 := rfl
  omega
theorem rep_up {w : Nat} (hw : 2 ≤ w) (n : Nat) : rep w n < 2 ^ (w * n) := by
  have h := rep_mul w n
  have h2 := pow4 hw
  have h3 := Int.mul_le_mul_of_nonneg_right (show (1 : Int) ≤ 2 ^ w - 1 by omega) (rep_nonneg w n)
  omega
theorem valD_zeros (w n : Nat) : valD w (List.replicate n 0) = 0 := by
  induction n with
  | zero => rfl
  | succ n ih => rw [List.replicate_succ, valD, ih]; simp
theorem digs_rep {w : Nat} (hw : 2 ≤ w) : ∀ n, digs w n (rep w n) = List.replicate n 1
  | 0 => rfl
  | n + 1 => by
    have h4 := pow4 hw
    rw [digs, rep_succ, List.replicate_succ, (div_unique' (two_pos w) (show 1 + 2 ^ w * rep w n = rep w n * 2 ^ w + 1 by rw [Int.mul_comm (2 ^ w)]; omega) (by decide) (by omega)).1, (div_unique' (two_pos w) (show 1 + 2 ^ w * rep w n = rep w n * 2 ^ w + 1 by rw [Int.mul_comm (2 ^ w)]; omega) (by decide) (by omega)).2, digs_rep hw n]
theorem rep_count {w : Nat} (hw : 2 ≤ w) : ∀ n, (Builtin.Int.intBits (rep w n) + w - 1) / w = n
  | 0 => by
    show (Builtin.Int.intBits 0 + w - 1) / w = 0
    have e : Builtin.Int.intBits 0 = 0 := by decide +kernel
    rw [e]; exact Nat.div_eq_of_lt (by omega)
  | n + 1 => by
    have h1 := rep_low w n
    have h2 := rep_up hw (n + 1)
    have up := bits_bound (rep_nonneg w (n + 1)) h2
    have lo : w * n + 1 ≤ Builtin.Int.intBits (rep w (n + 1)) := bits_ge (by
      have h3 := rep_nonneg w (n + 1)
      rw [← pow_cast] at h1
      omega)
    rw [Nat.mul_succ] at up
    refine Nat.div_eq_of_lt_le ?_ ?_
    · rw [Nat.succ_mul, Nat.mul_comm]; omega
    · rw [Nat.succ_mul, Nat.succ_mul, Nat.mul_comm]; omega
noncomputable def counts (o n : Nat) : List Int := (List.range 16).map fun c => if o ≤ c ∧ c < o + n then 1 else 0
theorem counts_eq {o n : Nat} (h : o + n ≤ 16) : counts o n = List.replicate o 0 ++ (List.replicate n 1 ++ List.replicate (16 - (o + n)) 0) := by
  refine List.ext_getElem (by simp [counts]; omega) fun i h1 h2 => ?_
  have hi : i < 16 := by simpa [counts] using h1
  simp only [counts, List.getElem_map, List.getElem_range]
  by_cases c1 : i < o
  · rw [List.getElem_append_left (by simpa using c1), List.getElem_replicate, if_neg (by omega)]
  · rw [List.getElem_append_right (by simp; omega)]
    simp only [List.length_replicate]
    by_cases c2 : i < o + n
    · rw [List.getElem_append_left (by simp; omega), List.getElem_replicate, if_pos (by omega)]
    · rw [List.getElem_append_right (by simp; omega), List.getElem_replicate, if_neg (by omega)]
theorem whole_eq (w : Nat) {o n : Nat} (h : o + n ≤ 16) : valD w (counts o n) = 2 ^ (w * o) * rep w n := by
  rw [counts_eq h, valD_append, valD_append, valD_zeros, valD_zeros, List.length_replicate]
  simp
/-- the row of all ones, told by one rest -/
theorem whole_split (w o n : Nat) (hw : 2 ≤ w) : 2 ^ (w * o) * rep w n = rep w o * (2 ^ (w * n) - 1) + rep w n := by
  have h1 := rep_mul w o
  have h2 := rep_mul w n
  have e : rep w o * (2 ^ (w * n) - 1) = (2 ^ (w * o) - 1) * rep w n := by
    rw [← h2, ← h1, ← Int.mul_assoc, Int.mul_comm (rep w o)]
  rw [e, Int.sub_mul, Int.one_mul]; omega
theorem div_whole (w o n : Nat) (hw : 2 ≤ w) (hn : 1 ≤ n) : (2 ^ (w * o) * rep w n).fdiv (2 ^ (w * n) - 1) = rep w o ∧ (2 ^ (w * o) * rep w n).fmod (2 ^ (w * n) - 1) = rep w n := by
  have h2 := rep_mul w n
  have h4 := pow4 hw
  have h3 := Int.mul_le_mul_of_nonneg_right (show (3 : Int) ≤ 2 ^ w - 1 by omega) (rep_nonneg w n)
  have h5 : 1 ≤ rep w n := by
    obtain ⟨m, rfl⟩ : ∃ m, n = m + 1 := ⟨n - 1, by omega⟩
    have := rep_low w m
    have := two_pos (w * m)
    omega
  refine (Int.fdiv_fmod_unique (by omega)).mpr ⟨?_, rep_nonneg w n, by omega⟩
  rw [whole_split w o n hw, Int.mul_comm]; omega
/-- the division that tells the torn tape's check -/
theorem div_parts {side turn B ones share left : Int} (hs : side = 1 ∨ side = -1) (hd : 0 < ones * share) (h0 : 0 ≤ left) (h1 : left < ones * share) :
    (side * (turn * (B * ones) * share * share + left)).fdiv (side * ones * share) = turn * B * share ∧ (side * (turn * (B * ones) * share * share + left)).fmod (side * ones * share) = side * left := by
  have e : turn * (B * ones) * share * share = (ones * share) * (turn * B * share) := by
    rw [← Int.mul_assoc turn B ones]
    rw [show ones * share * (turn * B * share) = turn * B * share * (ones * share) from Int.mul_comm _ _]
    rw [← Int.mul_assoc (turn * B * share) ones share, Int.mul_assoc (turn * B) share ones, Int.mul_comm share ones, ← Int.mul_assoc (turn * B) ones share]
  rw [e]
  rcases hs with rfl | rfl
  · simp only [Int.one_mul]
    exact (Int.fdiv_fmod_unique hd).mpr ⟨by omega, h0, h1⟩
  · have e2 : -1 * ones * share = -(ones * share) := by rw [Int.mul_assoc, Int.neg_one_mul]
    rw [e2]
    refine (Int.fdiv_fmod_unique' (by omega)).mpr ⟨?_, by omega, by omega⟩
    rw [Int.neg_mul (ones * share) (turn * B * share)]; omega

/-- fits i bits -/
structure Bn (x : Int) (i : Nat) : Prop where
  lt : x.natAbs < 2 ^ i
theorem Bn.mono {x : Int} {i j : Nat} (h : Bn x i) (hij : i ≤ j) : Bn x j := ⟨Nat.lt_of_lt_of_le h.lt (Nat.pow_le_pow_right (by decide) hij)⟩
theorem Bn.mul {x y : Int} {i j : Nat} (hx : Bn x i) (hy : Bn y j) : Bn (x * y) (i + j) := ⟨by
  rw [Int.natAbs_mul, Nat.pow_add]
  exact Nat.mul_lt_mul'' hx.lt hy.lt⟩
theorem Bn.add {x y : Int} {i j : Nat} (hx : Bn x i) (hy : Bn y j) (hij : j ≤ i) : Bn (x + y) (i + 1) := ⟨by
  have h1 := Int.natAbs_add_le x y
  have h2 := hx.lt
  have h3 := (hy.mono hij).lt
  rw [Nat.pow_succ]; omega⟩
theorem Bn.ok {x y : Int} {i j : Nat} (hx : Bn x i) (hy : Bn y j) (hij : i + j ≤ 2 ^ 27) : IntMulOk x y := mul_ok hx.lt hy.lt hij
theorem Bn.of {x : Int} {i : Nat} (h0 : 0 ≤ x) (h1 : x < 2 ^ i) : Bn x i := ⟨natAbs_lt h0 h1⟩
theorem Bn.le {x y : Int} {i : Nat} (h : Bn y i) (h0 : 0 ≤ x) (h1 : x ≤ y) : Bn x i := ⟨by have := h.lt; omega⟩
theorem Bn.bits {x : Int} {i : Nat} (h : Bn x i) : Builtin.Int.intBits x ≤ i := bits_le h.lt
theorem Bn.one {x : Int} (h : x = 1 ∨ x = -1) : Bn x 1 := ⟨by rcases h with rfl | rfl <;> decide⟩
theorem shp_two (u v : Int) : Shp (.tuple [.int u, .int v]) := by
  refine ⟨rfl, ?_⟩
  have : PyData.depth (.tuple [.int u, .int v]) = 1 := by
    rw [PyData.depth, PyData.depthAll, PyData.depthAll, PyData.depthAll, PyData.depth, PyData.depth]; rfl
  rw [this]; decide
theorem bits2 : Builtin.Int.intBits 2 = 2 := by decide +kernel
theorem law_f {C : Cfg} (W : Wd C) {script : List Int} {T S : Int} {sz : Nat} {torn : List Int} {s0 s1 : Nat} (H : LF script T S sz torn s0 s1) (hT : Bn T (2 ^ 25)) {k : Nat} (hk : 21 ≤ k) {L a : Addr} {pm code doc : Value} :
    Do C C.T k (callEnvC (dLaw.data pm code doc) L a) false (dLaw.body.drop 26) (m26 script T S sz torn) fun f _ => f = .ret (.bool true) ∨ (f = .next ∧ PyData.bool true = .none) := by
  have htl : torn.length ≤ 4 := by have := H.tl; have := H.sz5; omega
  have hsz5 := H.sz5
  have hsz3 := H.sz3
  have htsz := H.tl
  have hlen := H.len
  obtain ⟨cl, cl2, cl3, cl4⟩ := tape_count H.tape
  obtain ⟨ow, how⟩ : ∃ ow, ow = own torn := ⟨_, rfl⟩
  rw [← how] at cl2 cl3 cl4
  have hn2 : torn.length + 2 = sz + 1 := by omega
  rw [hn2] at cl cl2 cl3
  obtain ⟨cks, hcks⟩ : ∃ cks : List Int, cks = (found torn).map (·.1) := ⟨_, rfl⟩
  rw [← hcks] at cl2
  have hcl : cks.length = sz + 1 := by rw [hcks, List.length_map, cl]
  unfold m26
  rw [← how, ← hcks]
  obtain ⟨wd, hwd, w2, w1401⟩ : ∃ wd : Nat, 2 + S.fmod 1400 = (wd : Int) ∧ 2 ≤ wd ∧ wd ≤ 1401 := by
    have := fm_bounds S (y := 1400) (by decide)
    exact ⟨(2 + S.fmod 1400).toNat, by omega, by omega, by omega⟩
  refine Do.cons (DoS.assign ⟨.inl rfl, nofun⟩ (d := .int (wd : Int)) (Ev.cast (d' := .int (2 + S.fmod 1400)) ?_ (by rw [hwd])) ?_)
  · walk_at "ev"
    decide
  dsimp only
  obtain ⟨cts, hcts⟩ : ∃ cts, cts = counts ow (sz + 1) := ⟨_, rfl⟩
  have ect : ((List.range 16).map fun c : Nat => PyData.int ((cks.count (c : Int) : Nat) : Int)) = cts.map .int := by
    have := congrArg (List.map PyData.int) cl2
    rw [List.map_map] at this
    rw [hcts, counts]
    exact this
  have hctl : cts.length = 16 := by rw [hcts, counts, List.length_map, List.length_range]
  have h4 := pow4 w2
  have hctd : ∀ d ∈ cts, 0 ≤ d ∧ d < (2 : Int) ^ wd := fun d hd => by
    rw [hcts, counts] at hd
    obtain ⟨c, _, rfl⟩ := List.mem_map.mp hd
    split <;> omega
  have hones : ∀ d ∈ List.replicate (sz + 1) (1 : Int), 0 ≤ d ∧ d < (2 : Int) ^ wd := fun d hd => by rw [List.eq_of_mem_replicate hd]; omega
  obtain ⟨whole, hwh⟩ : ∃ whole, whole = valD wd cts := ⟨_, rfl⟩
  have bwh : Bn whole 22416 := by
    obtain ⟨h1, h2⟩ := valD_bound wd cts hctd
    rw [← hwh] at h1 h2
    exact (Bn.of h1 h2).mono (by rw [hctl]; omega)
  have ewh : whole = 2 ^ (wd * ow) * rep wd (sz + 1) := by rw [hwh, hcts]; exact whole_eq wd cl3
  refine Do.cons (DoS.assign ⟨.inl rfl, nofun⟩ (d := .int whole) (Ev.fn (ds := [.list (cts.map .int), .int wd]) W W.hD2I rfl rfl rfl (NoStar.cons (NoStar.cons NoStar.nil)) ?_ (hwh ▸ d2i_spec W (n := wd) (j := 4) hctd (by rw [hctl]; omega) (by rw [hctl]; omega) (by omega) (by rw [hctl]; decide)) (by omega)) ?_)
  · rw [← ect]
    apply Evs.cons' rfl ?_ ?_
    · refine (EvL.compA (mc := [("checks", .d (.list (cks.map .int)))]) (g := fun c : Nat => .int ((cks.count (c : Int) : Nat) : Int)) nat_inj (List.range 16) rfl (by walk_at "seen") ?_ ?_ (fun L' => by exact ⟨.inl rfl, (by intro h; cases h)⟩) rfl (by decide) (fun L' c hc => ?_)).ev
      · rw [← rng_nat]
        refine EvI.range' W rfl ?_ rfl ?_ (by decide) (by decide)
        · walk_at "ev"
        · exact Ev.int
      · rw [sizeLine_eq, List.length_range]; decide
      · refine Ev.meth' (d₀ := .list (cks.map .int)) (ds := [.int (c : Int)]) meth_count rfl rfl (by decide) ?_ ?_ rfl ?_ call_count
        · walk_at "ev"
        · walk_at "ev"
        · walk_at "ev"
    · walk_at "ev"
  dsimp only
  obtain ⟨ones, hon⟩ : ∃ ones, ones = rep wd (sz + 1) := ⟨_, rfl⟩
  have on0 : 0 < ones := by
    have := rep_low wd sz
    have := two_pos (wd * sz)
    rw [hon]; omega
  have bon : Bn ones 8406 := by
    rw [hon]
    refine (Bn.of (rep_nonneg _ _) (rep_up w2 _)).mono ?_
    have h1 : wd * (sz + 1) ≤ 1401 * 6 := Nat.mul_le_mul w1401 (by omega)
    omega
  have hd2 : Opn C 6 (fun vs => PySem.call (.ref W.aD2I) vs) [.list ((List.replicate (sz + 1) 1).map .int), .int wd] (.int ones) := by
    have h1 : wd * (sz + 1) ≤ 1401 * 6 := Nat.mul_le_mul w1401 (by omega)
    rw [hon]
    exact d2i_spec W (n := wd) (j := 4) hones (by rw [List.length_replicate]; omega) (by rw [List.length_replicate]; omega) (by omega) (by rw [List.length_replicate]; show sz + 1 ≤ 16; omega)
  refine Do.cons (DoS.assign ⟨.inl rfl, nofun⟩ (d := .int ones) (Ev.fn (ds := [.list ((List.replicate (sz + 1) 1).map .int), .int wd]) W W.hD2I rfl rfl rfl (NoStar.cons (NoStar.cons NoStar.nil)) ?_ hd2 (by omega)) ?_)
  · apply Evs.cons' rfl ?_ ?_
    · refine Ev.cast (d' := .list (List.replicate ((sz : Int) + 1).toNat (.int 1))) (Ev.bin (d₁ := .list [.int 1]) (d₂ := .int ((sz : Int) + 1)) ?_ ?_ (Op2L.op (op_mul1 (by omega) (by omega)))) ?_
      · refine Ev.list' ?_ (by show 1 ≤ sizeLine; rw [sizeLine_eq]; decide)
        walk_at "ev"
      · walk_at "ev"
      · rw [List.map_replicate, show ((sz : Int) + 1).toNat = sz + 1 by omega]
    · walk_at "ev"
  dsimp only
  obtain ⟨P, hP⟩ : ∃ P : Int, P = 2 ^ (4200 : Int).toNat := ⟨_, rfl⟩
  have P0 : 0 < P := by rw [hP]; exact Int.pow_pos (by decide)
  have bP : Bn P 4201 := ⟨by
    rw [hP, Int.natAbs_pow]
    exact Nat.pow_lt_pow_right (by decide) (by decide)⟩
  obtain ⟨ab, hab⟩ : ∃ ab : Int, ab = if T < 0 then -T else T := ⟨_, rfl⟩
  obtain ⟨share, hsh⟩ : ∃ share, share = 1 + ab.fmod P := ⟨_, rfl⟩
  have shb := fm_bounds ab P0
  have sh0 : 0 < share := by omega
  have bsh : Bn share 4201 := bP.le (by omega) (by omega)
  refine Do.cons (DoS.assign ⟨.inl rfl, nofun⟩ (d := .int share) (hsh ▸ Ev.bin (d₁ := .int 1) (d₂ := .int (ab.fmod P)) Ev.int (Ev.bin (d₁ := .int ab) (d₂ := .int P) (Ev.bi (ds := [.int T]) W rfl W.abs (by decide) (NoStar.cons NoStar.nil) ?_ (hab ▸ call_abs)) (Ev.bin (d₁ := .int 2) (d₂ := .int 4200) Ev.int Ev.int (hP ▸ op_pow (by decide) ?_)) (op_mod (by omega))) op_add) ?_)
  · walk_at "ev"
  · rw [bits2]; decide
  dsimp only
  have os0 : 0 < ones * share := Int.mul_pos on0 sh0
  obtain ⟨left, hleft⟩ : ∃ left, left = (T * T).fmod (ones * share) := ⟨_, rfl⟩
  have lb := fm_bounds (T * T) os0
  rw [← hleft] at lb
  refine Do.cons (DoS.assign ⟨.inl rfl, nofun⟩ (d := .int left) (hleft ▸ Ev.bin (d₁ := .int (T * T)) (d₂ := .int (ones * share)) (Ev.bin (d₁ := .int T) (d₂ := .int T) ?_ ?_ (op_mul (hT.ok hT (by decide)))) (Ev.bin (d₁ := .int ones) (d₂ := .int share) ?_ ?_ (op_mul (bon.ok bsh (by decide)))) (op_mod (by omega))) ?_)
  · walk_at "ev"
  · walk_at "ev"
  · walk_at "ev"
  · walk_at "ev"
  dsimp only
  have tb := fm_bounds ((script.map PyData.int).length : Int) (y := 2) (by decide)
  have sb := fm_bounds (((script.map PyData.int).length : Int).fdiv 2) (y := 2) (by decide)
  have mok : ∀ x : Int, 0 ≤ x → x < 2 → IntMulOk 2 x := fun x h0 h1 => mul_ok (i := 2) (j := 1) (by decide) (by omega) (by decide)
  have hscl : (script.map PyData.int).length ≤ sizeLine := by rw [List.length_map, sizeLine_eq]; omega
  obtain ⟨turn, htu⟩ : ∃ turn, turn = 1 - 2 * ((script.map PyData.int).length : Int).fmod 2 := ⟨_, rfl⟩
  obtain ⟨side, hsi⟩ : ∃ side, side = 1 - 2 * (((script.map PyData.int).length : Int).fdiv 2).fmod 2 := ⟨_, rfl⟩
  have ht1 : turn = 1 ∨ turn = -1 := by omega
  have hs1 : side = 1 ∨ side = -1 := by omega
  refine Do.cons (DoS.assign ⟨.inl rfl, nofun⟩ (d := .int turn) (Ev.cast (d' := .int (1 - 2 * ((script.map PyData.int).length : Int).fmod 2)) ?_ (by rw [htu])) ?_)
  · walk_at "ev"
    all_goals first
      | exact hscl
      | exact mok _ tb.1 tb.2
      | decide
  dsimp only
  refine Do.cons (DoS.assign ⟨.inl rfl, nofun⟩ (d := .int side) (Ev.cast (d' := .int (1 - 2 * (((script.map PyData.int).length : Int).fdiv 2).fmod 2)) ?_ (by rw [hsi])) ?_)
  · walk_at "ev"
    all_goals first
      | exact hscl
      | exact mok _ sb.1 sb.2
      | exact pyl_small _ (by decide) (by decide +kernel)
      | decide
  dsimp only
  obtain ⟨B, hB⟩ : ∃ B : Int, B = 2 ^ (wd * ow) := ⟨_, rfl⟩
  have B0 : 0 < B := by rw [hB]; exact two_pos _
  have hwo : wd * ow ≤ 1401 * 10 := Nat.mul_le_mul w1401 cl4
  have hws : wd * (sz + 1) ≤ 1401 * 6 := Nat.mul_le_mul w1401 (by omega)
  have bB : Bn B 14011 := ⟨by
    rw [hB, Int.natAbs_pow]
    exact Nat.pow_lt_pow_right (by decide) (by omega)⟩
  have ewh2 : whole = B * ones := by rw [ewh, hB, hon]
  have bts := Bn.one ht1
  have bss := Bn.one hs1
  have b1 : Bn (turn * whole) 22417 := (bts.mul bwh).mono (by decide)
  have b2 : Bn (turn * whole * share) 26618 := (b1.mul bsh).mono (by decide)
  have b3 : Bn (turn * whole * share * share) 30819 := (b2.mul bsh).mono (by decide)
  have bos : Bn (ones * share) 12607 := (bon.mul bsh).mono (by decide)
  have bl : Bn left 12607 := bos.le lb.1 (by omega)
  have b4 : Bn (turn * whole * share * share + left) 30820 := (b3.add bl (by decide)).mono (by decide)
  have b5 : Bn (side * (turn * whole * share * share + left)) 30821 := (bss.mul b4).mono (by decide)
  have b6 : Bn (side * ones) 8407 := (bss.mul bon).mono (by decide)
  have b7 : Bn (side * ones * share) 12608 := (b6.mul bsh).mono (by decide)
  have dp := div_parts (turn := turn) (B := B) hs1 os0 lb.1 lb.2
  rw [← ewh2] at dp
  have hD0 : side * ones * share ≠ 0 := by
    rw [Int.mul_assoc]
    rcases hs1 with h | h <;> rw [h] <;> omega
  refine Do.cons (DoS.assign ⟨.inl rfl, nofun⟩ (d := .tuple [.int (turn * B * share), .int (side * left)]) (Ev.fn (ds := [.int (side * (turn * whole * share * share + left)), .int (side * ones * share)]) W W.hDM rfl rfl rfl (NoStar.cons (NoStar.cons NoStar.nil)) ?_ (dp.1 ▸ dp.2 ▸ dm_spec W hD0 (Nat.le_trans b5.bits (by decide)) (Nat.le_trans b7.bits (by decide))) hk) ?_)
  · apply Evs.cons' rfl ?_ ?_
    · walk_at "ev"
      · exact bts.ok bwh (by decide)
      · exact b1.ok bsh (by decide)
      · exact b2.ok bsh (by decide)
      · exact bss.ok b4 (by decide)
    · walk_at "ev"
      · exact bss.ok bon (by decide)
      · exact b6.ok bsh (by decide)
  dsimp only
  have epow : (2 : Int) ^ ((wd : Int) * (ow : Int)).toNat = B := by rw [hB, ← Int.natCast_mul, Int.toNat_natCast]
  have bTB : Bn (turn * B) 14012 := (bts.mul bB).mono (by decide)
  have wo : IntMulOk (wd : Int) (ow : Int) := mul_ok (i := 11) (j := 4) (by omega) (by omega) (by decide)
  refine Do.cons (DoS.ite (b := false) (Te.cast (Te.cmp' (d₁ := .tuple [.int (turn * B * share), .int (side * left)]) (d₂ := .tuple [.int (turn * B * share), .int (side * left)]) rfl ?_ (Ev.tuple' ?_ (by show 2 ≤ sizeLine; rw [sizeLine_eq]; decide)) (op_ned (shp_two _ _) (shp_two _ _))) (by rw [eqv_same (shp_two _ _)]; rfl)) (fun h => by cases h) (fun _ => Do.nil ?_))
  · walk_at "ev"
  · apply Evs.cons' rfl ?_ ?_
    · refine Ev.bin (d₁ := .int (turn * B)) (d₂ := .int share) (Ev.bin (d₁ := .int turn) (d₂ := .int B) ?_ (Ev.bin (d₁ := .int 2) (d₂ := .int ((wd : Int) * (ow : Int))) Ev.int ?_ (epow ▸ op_pow ?_ ?_)) (op_mul (bts.ok bB (by decide)))) ?_ (op_mul (bTB.ok bsh (by decide)))
      · walk_at "ev"
      · walk_at "ev"
        exact wo
      · rw [← Int.natCast_mul]; omega
      · rw [bits2, ← Int.natCast_mul]; omega
      · walk_at "ev"
    · walk_at "ev"
      exact bss.ok bl (by decide)
  dsimp only
  have epow2 : (2 : Int) ^ ((wd : Int) * ((sz : Int) + 1)).toNat = 2 ^ (wd * (sz + 1)) := by
    rw [show (wd : Int) * ((sz : Int) + 1) = ((wd * (sz + 1) : Nat) : Int) by push_cast; rfl, Int.toNat_natCast]
  obtain ⟨M, hM⟩ : ∃ M : Int, M = 2 ^ (wd * (sz + 1)) := ⟨_, rfl⟩
  have M2 : 2 ≤ M := by
    have h1 : (2 : Nat) ^ 1 ≤ 2 ^ (wd * (sz + 1)) := Nat.pow_le_pow_right (by decide) (Nat.le_trans (by omega) (Nat.le_mul_of_pos_right wd (show 0 < sz + 1 by omega)))
    rw [hM, ← pow_cast]; omega
  have bM : Bn M 8407 := ⟨by
    rw [hM, Int.natAbs_pow]
    exact Nat.pow_lt_pow_right (by decide) (by omega)⟩
  have bM1 : Bn (M - 1) 8407 := bM.le (by omega) (by omega)
  have dw := div_whole wd ow (sz + 1) w2 (by omega)
  rw [← hM, ← ewh] at dw
  refine Do.cons (DoS.assign2 ⟨.inl rfl, nofun⟩ ⟨.inl rfl, nofun⟩ (d1 := .int (rep wd ow)) (d2 := .int (rep wd (sz + 1))) (Ev.fn (ds := [.int whole, .int (M - 1)]) W W.hDM rfl rfl rfl (NoStar.cons (NoStar.cons NoStar.nil)) ?_ (dw.1 ▸ dw.2 ▸ dm_spec W (by omega) (Nat.le_trans bwh.bits (by decide)) (Nat.le_trans bM1.bits (by decide))) hk) ?_)
  · apply Evs.cons' rfl ?_ ?_
    · walk_at "ev"
    · apply Evs.cons' rfl ?_ Evs.nil
      refine Ev.bin (d₁ := .int M) (d₂ := .int 1) (Ev.bin (d₁ := .int 2) (d₂ := .int ((wd : Int) * ((sz : Int) + 1))) Ev.int ?_ (hM ▸ epow2 ▸ op_pow ?_ ?_)) Ev.int op_sub
      · walk_at "ev"
        exact mul_ok (i := 11) (j := 4) (by omega) (by omega) (by decide)
      · rw [show (wd : Int) * ((sz : Int) + 1) = ((wd * (sz + 1) : Nat) : Int) by push_cast; rfl]; omega
      · rw [bits2, show (wd : Int) * ((sz : Int) + 1) = ((wd * (sz + 1) : Nat) : Int) by push_cast; rfl]; omega
  dsimp only
  have hi2d : ∀ n : Nat, n ≤ 10 → Opn C 6 (fun vs => PySem.call (.ref W.aI2D) vs) [.int (rep wd n), .int wd] (.list ((List.replicate n 1).map .int)) := fun n hn => by
    have h1 : wd * n ≤ 1401 * 10 := Nat.mul_le_mul w1401 hn
    rw [← digs_rep w2 n]
    exact i2d_spec W (n := wd) (j := 4) (rep_nonneg _ _) (by omega) (rep_count w2 n) (by omega) (by omega) (by omega) (by show n ≤ 16; omega)
  have erow : ∀ n : Nat, List.replicate ((n : Nat) : Int).toNat (PyData.int 1) = (List.replicate n 1).map .int := fun n => by rw [Int.toNat_natCast, List.map_replicate]
  have esz : ((sz + 1 : Nat) : Int) = (sz : Int) + 1 := by omega
  refine Do.cons (DoS.ret (d := .bool true) (Ev.and (d₁ := .bool true) (b := true) (Ev.cast (d' := .bool (decide ((List.replicate ow 1 : List Int) = List.replicate ow 1))) (Ev.cmp' (d₁ := .list ((List.replicate ow 1).map .int)) (d₂ := .list ((List.replicate ow 1).map .int)) rfl (Ev.fn (ds := [.int (rep wd ow), .int wd]) W W.hI2D rfl rfl rfl (NoStar.cons (NoStar.cons NoStar.nil)) ?_ (hi2d ow cl4) (by omega)) (erow ow ▸ Ev.bin (d₁ := .list [.int 1]) (d₂ := .int (ow : Int)) (Ev.list' ?_ (by show 1 ≤ sizeLine; rw [sizeLine_eq]; decide)) ?_ (Op2L.op (op_mul1 (by omega) (by omega)))) (op_eqi _ _)) (by simp)) t_bool (fun _ => Ev.cast (d' := .bool (decide ((List.replicate (sz + 1) 1 : List Int) = List.replicate (sz + 1) 1))) (Ev.cmp' (d₁ := .list ((List.replicate (sz + 1) 1).map .int)) (d₂ := .list ((List.replicate (sz + 1) 1).map .int)) rfl (Ev.fn (ds := [.int (rep wd (sz + 1)), .int wd]) W W.hI2D rfl rfl rfl (NoStar.cons (NoStar.cons NoStar.nil)) ?_ (hi2d (sz + 1) (by omega)) (by omega)) (erow (sz + 1) ▸ Ev.bin (d₁ := .list [.int 1]) (d₂ := .int ((sz + 1 : Nat) : Int)) (Ev.list' ?_ (by show 1 ≤ sizeLine; rw [sizeLine_eq]; decide)) ?_ (Op2L.op (op_mul1 (by omega) (by omega)))) (op_eqi _ _)) (by simp)) (fun h => by cases h)) (.inl rfl))
  · walk_at "ev"
  · walk_at "ev"
  · walk_at "ev"
  · walk_at "ev"
  · walk_at "ev"
  · rw [esz]
    walk_at "ev"

noncomputable def bNames : List Str := ["next", "iter", "bytes", "divmod", "reversed", "len", "range", "sum", "chr", "abs", "sorted", "StopIteration"]
noncomputable def okFree (q : Program) (x : Str) : Bool := decide (x ∉ startupNames) && (decide (x ∉ looseW q []) && (decide (x ∉ (recsOf q).map (·.name)) && (decide (x ∉ (litsOf q).map (·.1)) && (decide (x ∉ (clssOf q (looseW q [])).map (·.name)) && decide (x ≠ "__name__")))))
/-- what is asked of the head's view of the program -/
structure Vw (q : Program) (K : Params → Frag) : Prop where
  r0 : (recsOf q)[0]? = some dParse
  r1 : (recsOf q)[1]? = some dDiv2
  r2 : (recsOf q)[2]? = some dDiv3
  r3 : (recsOf q)[3]? = some dI2D
  r4 : (recsOf q)[4]? = some dD2I
  r5 : (recsOf q)[5]? = some dDP
  r6 : (recsOf q)[6]? = some dDM
  r7 : (recsOf q)[7]? = some dEM
  r8 : (recsOf q)[8]? = some dNum
  r9 : (recsOf q)[9]? = some dChk
  r10 : (recsOf q)[10]? = some dMend
  r11 : (recsOf q)[11]? = some dLaw
  t3 : ∀ P, tabIn (K P) dI2D.name = some (41, 37)
  t4 : ∀ P, tabIn (K P) dD2I.name = some (48, 44)
  c3 : ∀ P, codeHdIn (K P) 41 37 = true
  c4 : ∀ P, codeHdIn (K P) 48 44 = true
  lim : valOf q "_DIV_LIMIT" = some (.int 4000)
  mark : valOf q "ELLIPSIS_MARKER" = some (.str "...")
  free : bNames.all (okFree q) = true
noncomputable def cfgOf (w : World) (h₁ : Heap) (mg mb : Str → Option Value) : Cfg := ⟨w, fun b => if b = 37 ∨ b = 44 then none else h₁.get? b, mg, mb, 37, 44, dInI.pos, dInD.pos, none, none⟩
section
variable {q : Program} {K : Params → Frag} {w : World} {h₁ : Heap} {mg mb : Str → Option Value} {mean : ExcName → Option Value}
theorem base_of (hT : ∀ P ∈ [44, 37], h₁.get? P = some (tabObj #[])) {b : Addr} {o : Obj} (e : h₁.get? b = some o) (hn : o ≠ tabObj #[]) : (cfgOf w h₁ mg mb).base b = some o := by
  show (if b = 37 ∨ b = 44 then none else h₁.get? b) = some o
  rw [if_neg, e]
  rintro (rfl | rfl)
  · rw [hT 37 (by simp)] at e; exact hn (Option.some.inj e).symm
  · rw [hT 44 (by simp)] at e; exact hn (Option.some.inj e).symm
theorem gi_of (hT : ∀ P ∈ [44, 37], h₁.get? P = some (tabObj #[])) : GI (cfgOf w h₁ mg mb) h₁ := by
  refine ⟨fun b o e => ?_, ⟨#[], hT 37 (by simp), .inl ⟨rfl, rfl⟩⟩, ⟨#[], hT 44 (by simp), .inl ⟨rfl, rfl⟩⟩⟩
  have e' : (if b = 37 ∨ b = 44 then none else h₁.get? b) = some o := e
  split at e'
  · cases e'
  · exact e'
theorem ns_of (hT : ∀ P ∈ [44, 37], h₁.get? P = some (tabObj #[])) {h : Heap} (g : GI (cfgOf w h₁ mg mb) h) {a : Addr} {m : Str → Option Value} (n : h₁.Ns a m) : h.Ns a m := by
  obtain ⟨o, es, ep, e, d, r⟩ := n
  exact ⟨o, es, ep, g.base _ _ (base_of hT e fun z => by rw [z] at d; cases d), d, r⟩
theorem code_of (hT : ∀ P ∈ [44, 37], h₁.get? P = some (tabObj #[])) {h : Heap} (g : GI (cfgOf w h₁ mg mb) h) {cd : Value} {q : Str} (n : h₁.CodeRec cd q) : h.CodeRec cd q := by
  obtain ⟨c, o, vs, t, e1, e2, d, r⟩ := n
  exact ⟨c, o, vs, t, e1, g.base _ _ (base_of hT e2 fun z => by rw [z] at d; cases d; cases r), d, r⟩
theorem hd_of (hT : ∀ P ∈ [44, 37], h₁.get? P = some (tabObj #[])) {h : Heap} (g : GI (cfgOf w h₁ mg mb) h) {c P : Addr} (n : CodeHd h₁ c P) : CodeHd h c P := by
  obtain ⟨o, vs, file, tf, flags, tg, inF, text, tt, e, hc, r⟩ := n
  exact ⟨o, vs, file, tf, flags, tg, inF, text, tt, g.base _ _ (base_of hT e fun z => by rw [z] at hc; cases hc), hc, r⟩
theorem def_of (T : Top q (looseW q []) mean mg mb h₁) (hT : ∀ P ∈ [44, 37], h₁.get? P = some (tabObj #[])) {d : DefRec} (hd : d ∈ recsOf q) : ∃ a, HasDef (cfgOf w h₁ mg mb) d a := by
  obtain ⟨a, o, pm, code, doc, e1, e2, e3, e4⟩ := T.fn d hd
  exact ⟨a, e1, o, pm, code, doc, base_of hT e2 (fun z => by rw [z] at e3; cases e3), e3, fun h g => code_of hT g e4⟩
theorem glo_of (V : Vw q K) (T : Top q (looseW q []) mean mg mb h₁) {x : Str} {v : Value} (hx : x ∈ bNames) (hv : bootBuiltins x = some v) : Glo (cfgOf w h₁ mg mb) x v := by
  have h := List.all_eq_true.mp V.free x hx
  unfold okFree at h
  simp only [Bool.and_eq_true, decide_eq_true_eq] at h
  obtain ⟨h1, h2, h3, h4, h5, hn⟩ := h
  exact .inr ⟨T.free x h1 h2 h3 h4 h5, (T.builtins x hn).trans hv⟩
theorem mem_at {α : Type} {l : List α} {i : Nat} {a : α} (h : l[i]? = some a) : a ∈ l := List.mem_of_getElem? h
theorem wd_of (V : Vw q K) (T : Top q (looseW q []) mean mg mb h₁) (X : (K w.params).In h₁) (hT : ∀ P ∈ [44, 37], h₁.get? P = some (tabObj #[])) : Nonempty (Wd (cfgOf w h₁ mg mb)) := by
  obtain ⟨a0, d0⟩ := def_of (w := w) T hT (d := dParse) (mem_at V.r0)
  obtain ⟨a1, d1⟩ := def_of (w := w) T hT (d := dDiv2) (mem_at V.r1)
  obtain ⟨a2, d2⟩ := def_of (w := w) T hT (d := dDiv3) (mem_at V.r2)
  obtain ⟨a5, d5⟩ := def_of (w := w) T hT (d := dDP) (mem_at V.r5)
  obtain ⟨a6, d6⟩ := def_of (w := w) T hT (d := dDM) (mem_at V.r6)
  obtain ⟨a7, d7⟩ := def_of (w := w) T hT (d := dEM) (mem_at V.r7)
  obtain ⟨a8, d8⟩ := def_of (w := w) T hT (d := dNum) (mem_at V.r8)
  obtain ⟨a9, d9⟩ := def_of (w := w) T hT (d := dChk) (mem_at V.r9)
  obtain ⟨a10, d10⟩ := def_of (w := w) T hT (d := dMend) (mem_at V.r10)
  obtain ⟨a3, o3, pm3, code3, doc3, q1, q2, q3, q4⟩ := T.fn dI2D (mem_at V.r3)
  obtain ⟨a4, o4, pm4, code4, doc4, r1, r2, r3, r4⟩ := T.fn dD2I (mem_at V.r4)
  have c3 : code3 = .ref 41 := law_code (x := dI2D.name) (c := 41) (P := 37) X T.g (V.t3 _) q1 q2 q3
  have c4 : code4 = .ref 48 := law_code (x := dD2I.name) (c := 48) (P := 44) X T.g (V.t4 _) r1 r2 r3
  subst c3 c4
  have b3 : (cfgOf w h₁ mg mb).base a3 = some o3 := base_of hT q2 fun z => by rw [z] at q3; cases q3
  have b4 : (cfgOf w h₁ mg mb).base a4 = some o4 := base_of hT r2 fun z => by rw [z] at r3; cases r3
  obtain ⟨vl, l1, l2⟩ := T.const "_DIV_LIMIT" (.int 4000) V.lim
  obtain ⟨vm, m1, m2⟩ := T.const "ELLIPSIS_MARKER" (.str "...") V.mark
  have l3 := l2 h₁
  have m3 := m2 h₁
  obtain ⟨bm, ob, n1, n2, n3, n4, n5, n6⟩ := T.bmain
  exact ⟨{
    st := ⟨fun h g => ⟨ns_of hT g T.g, ns_of hT g T.b, let ⟨mc, u, q⟩ := T.nolimit; ⟨mc, ns_of hT g u, q⟩⟩⟩
    aParse := a0, hParse := d0, aDiv2 := a1, hDiv2 := d1, aDiv3 := a2, hDiv3 := d2
    aI2D := a3, hI2D := ⟨q1, o3, pm3, .ref 41, doc3, b3, q3, fun h g => code_of hT g q4⟩
    aD2I := a4, hD2I := ⟨r1, o4, pm4, .ref 48, doc4, b4, r3, fun h g => code_of hT g r4⟩
    aDP := a5, hDP := d5, aDM := a6, hDM := d6, aEM := a7, hEM := d7, aNum := a8, hNum := d8, aChk := a9, hChk := d9, aMend := a10, hMend := d10
    ki0 := rfl, kd0 := rfl, ne := (by show (37 : Addr) ≠ 44; decide)
    cI := 41, fI := ⟨o3, pm3, doc3, b3, q3⟩, codeI := fun h g => hd_of hT g (codeHd_of_K X (V.c3 _)), posI := rfl
    cD := 48, fD := ⟨o4, pm4, doc4, b4, r3⟩, codeD := fun h g => hd_of hT g (codeHd_of_K X (V.c4 _)), posD := rfl
    blt := fun h g P hP => by
      obtain ⟨og, es, ep, e, d, _⟩ := T.g
      have hb : (cfgOf w h₁ mg mb).base bm = some ob := base_of hT n3 fun z => by rw [z] at n6; cases n6
      refine ⟨bm, ob, n1, n2, fun z => ?_, fun z => ?_, g.base _ _ hb, n4, n5, n6⟩
      · rw [z, e] at n3; cases n3; rw [n6] at d; cases d
      · have hP' : P = 37 ∨ P = 44 := by simpa [cfgOf] using hP
        have : h₁.get? P = some (tabObj #[]) := by rcases hP' with rfl | rfl <;> exact hT _ (by simp)
        rw [← z, n3] at this; cases this; cases n6
    lim := by cases l3; exact ⟨_, l1⟩
    mark := by cases m3; exact ⟨_, m1⟩
    next := glo_of V T (by decide) (by kernel_rfl), iter := glo_of V T (by decide) (by kernel_rfl), bytes := glo_of V T (by decide) (by kernel_rfl), divmod := glo_of V T (by decide) (by kernel_rfl), reversed := glo_of V T (by decide) (by kernel_rfl), len := glo_of V T (by decide) (by kernel_rfl)
    range := glo_of V T (by decide) (by kernel_rfl), sum := glo_of V T (by decide) (by kernel_rfl), chr := glo_of V T (by decide) (by kernel_rfl), abs := glo_of V T (by decide) (by kernel_rfl), sorted := glo_of V T (by decide) (by kernel_rfl), stop := glo_of V T (by decide) (by kernel_rfl) }⟩
end

theorem law_opn {C : Cfg} (W : Wd C) {aLaw : Addr} (hL : HasDef C dLaw aLaw) {script : List Int} (hl : script.length ≤ 63) (hT : Bn script.sum (2 ^ 25)) : Opn C 22 (fun vs => PySem.call (.ref aLaw) vs) [.list (script.map .int)] (.bool true) := by
  refine Opn.ofDef ["script"] [("script", .d (.list (script.map .int)))] W.st hL
    (fun pm code doc vals h => len1_ h fun _ => rfl) (fun n hn => .inl ?_) rfl rfl (fun L pm code doc => ?_)
  · simp only [List.mem_cons, List.not_mem_nil, or_false] at hn
    rcases hn with rfl; rfl
  · exact law_a W hl fun T S sz torn s0 s1 H => law_b W H (law_c W H (by decide) (law_d W H (by decide) fun fa => law_e W H (by decide) (law_f W H (H.sum ▸ hT) (by decide))))
/-- a script's sum is not too big -/
theorem weight_bits (x : Int) : x.natAbs < 2 ^ (PyData.weight (.int x)) := by
  rw [PyData.weight]
  by_cases h : x = 0
  · subst h; decide
  · rw [if_neg (by simpa using h)]
    exact Nat.lt_log2_self
theorem sum_bits {b : Nat} : ∀ l : List Int, (∀ x ∈ l, x.natAbs < 2 ^ b) → l.sum.natAbs ≤ l.length * 2 ^ b
  | [], _ => by simp
  | x :: l, h => by
    have h1 := sum_bits l fun y hy => h y (.tail _ hy)
    have h2 := h x (.head _)
    rw [List.sum_cons, List.length_cons, Nat.succ_mul]
    have := Int.natAbs_add_le x l.sum
    omega
theorem weight_mem : ∀ {l : List PyData} {d : PyData}, d ∈ l → PyData.weight d ≤ PyData.weightAll l
  | x :: l, d, h => by
    rw [PyData.weightAll]
    rcases List.mem_cons.mp h with rfl | h
    · omega
    · have := weight_mem h; omega
theorem sum_bn {script : List Int} (hl : script.length ≤ 63) (h : (PyData.list (script.map PyData.int)).layable0 = true) : Bn script.sum (2 ^ 25) := by
  have h' : (PyData.canLay0 (.list (script.map PyData.int)) && decide (PyData.depth (.list (script.map PyData.int)) ≤ 64) && decide (PyData.weight (.list (script.map PyData.int)) ≤ 2 ^ 20)) = true := h
  simp only [Bool.and_eq_true, decide_eq_true_eq] at h'
  have hw := h'.2
  rw [PyData.weight] at hw
  obtain ⟨n, hn⟩ : ∃ n : Nat, n = 2 ^ 20 := ⟨_, rfl⟩
  rw [← hn] at hw
  have hx : ∀ x ∈ script, x.natAbs < 2 ^ n := fun x hx => by
    have h1 := weight_mem (List.mem_map.mpr ⟨x, hx, rfl⟩ : PyData.int x ∈ script.map PyData.int)
    exact Nat.lt_of_lt_of_le (weight_bits x) (Nat.pow_le_pow_right (by decide) (Nat.le_trans h1 hw))
  have hs := sum_bits script hx
  have h3 : 63 * 2 ^ n < 2 ^ 6 * 2 ^ n := Nat.mul_lt_mul_of_pos_right (by decide) (Nat.two_pow_pos n)
  rw [← Nat.pow_add] at h3
  have h4 : 6 + n ≤ 2 ^ 25 := by rw [hn]; decide
  exact ⟨Nat.lt_of_le_of_lt hs (Nat.lt_of_le_of_lt (Nat.mul_le_mul_right _ hl) (Nat.lt_of_lt_of_le h3 (Nat.pow_le_pow_right (by decide) h4)))⟩
/-- the end: True, and all as it was but for the two tables -/
theorem fin_of {w : World} {s₁ : Shared} {mg mb : Str → Option Value} {cw : ClaimW} {cl : Str → Option Addr} {mean : ExcName → Option Value} {args : List WData} (hTabs : TabsAt [(48, 44), (41, 37)] s₁.heap) (hg : s₁.gens = #[]) (hr : ∀ a x, cw.raises a x = false) (hp : cw.post args (.bool true) args = true)
    {h' : Heap} {tk : Nat} (k : Kp (cfgOf w s₁.heap mg mb) (cfgOf w s₁.heap mg mb).T s₁.heap h') (g : GI (cfgOf w s₁.heap mg mb) h') : GoodWG cw cl mean args s₁ (.ok (.ret (.bool true))) { s₁ with heap := h', toks := tk } := by
  have hT : ∀ P ∈ [44, 37], s₁.heap.get? P = some (tabObj #[]) := fun P hP => by
    simp only [List.mem_cons, List.not_mem_nil, or_false] at hP
    rcases hP with rfl | rfl
    · exact (hTabs (48, 44) (by simp)).2
    · exact (hTabs (41, 37) (by simp)).2
  have keep : ∀ b o, b ≠ 37 → b ≠ 44 → s₁.heap.get? b = some o → h'.get? b = some o := fun b o h1 h2 e => g.base b o (by
    show (if b = 37 ∨ b = 44 then none else s₁.heap.get? b) = some o
    rw [if_neg (fun z => z.elim h1 h2)]; exact e)
  obtain ⟨pi, ei, _⟩ := g.tabi
  obtain ⟨pd, ed, _⟩ := g.tabd
  have grown : ∀ b o, (b = 37 ∨ b = 44) → s₁.heap.get? b = some o → isCodeTable s₁.heap b ∧ o = tabObj #[] ∧ ∃ ps, h'.get? b = some (tabObj ps) := fun b o hb e => by
    rcases hb with rfl | rfl
    · have := hT 37 (by simp)
      rw [e] at this
      exact ⟨((hTabs (41, 37) (by simp)).1.tab (hTabs (41, 37) (by simp)).2).isCodeTable, Option.some.inj this, pi, ei⟩
    · have := hT 44 (by simp)
      rw [e] at this
      exact ⟨((hTabs (48, 44) (by simp)).1.tab (hTabs (48, 44) (by simp)).2).isCodeTable, Option.some.inj this, pd, ed⟩
  refine ⟨.inl ⟨_, .bool true, [], rfl, fun c => hr _ c, .bool true, hp, fun _ => ⟨List.nodup_nil, fun a h => (by cases h)⟩⟩, ⟨fun b o e => ?_, fun b o e => ?_⟩, rfl, .of_eq hg⟩
  · by_cases hb : b = 37 ∨ b = 44
    · obtain ⟨ht, rfl, ps, hP⟩ := grown b o hb e
      exact .inr (.inl ⟨ht, rfl, #[], ps, rfl, by rw [Array.empty_append]; exact hP⟩)
    · exact .inl (keep b o (fun z => hb (.inl z)) (fun z => hb (.inr z)) e)
  · by_cases hb : b = 37 ∨ b = 44
    · obtain ⟨_, _, ps, hP⟩ := grown b o hb e
      exact ⟨_, hP⟩
    · exact ⟨o, keep b o (fun z => hb (.inl z)) (fun z => hb (.inr z)) e⟩
theorem well_ints {P : Params} {h : Heap} : ∀ {ns : List Int} {vs : List Value}, WellAll P h vs (ofPys (ns.map PyData.int)) → ∀ O, Reps O h vs (ns.map .int)
  | [], _, r, O => by cases r; exact .nil
  | n :: ns, _, r, O => by
    cases r with
    | cons r1 r2 => cases r1; exact .cons (.int _ _) (well_ints r2 O)
theorem join_of {q : Program} {K : Params → Frag} (V : Vw q K) {w : World} {s₁ : Shared} {mg mb : Str → Option Value} {mean : ExcName → Option Value} {cw : ClaimW} {cl : Str → Option Addr} {mean' : ExcName → Option Value} {args : List WData} {fa l : Addr} {script : List Int} {P : Params}
    (T : Top q (looseW q []) mean mg mb s₁.heap) (X : (K w.params).In s₁.heap) (hTabs : TabsAt [(48, 44), (41, 37)] s₁.heap) (hm : mg dLaw.name = some (.ref fa)) (hg : s₁.gens = #[]) (hr : ∀ a x, cw.raises a x = false) (hp : cw.post args (.bool true) args = true)
    (hl : script.length ≤ 63) (hlay : (PyData.list (script.map PyData.int)).layable0 = true) (hw : Well P s₁.heap (.ref l) (ofPy (.list (script.map .int)))) :
    wpAny (model PySem.Challenge.rw_sh0022_01.row.prog w) callerA (PySem.call (.ref fa) [.ref l]) (fun v s' => GoodWG cw cl mean' args s₁ (.ok (.ret v)) s') (fun e s' => GoodWG cw cl mean' args s₁ (.error e) s') s₁ := by
  have hT : ∀ P ∈ [44, 37], s₁.heap.get? P = some (tabObj #[]) := fun P hP => by
    simp only [List.mem_cons, List.not_mem_nil, or_false] at hP
    rcases hP with rfl | rfl
    · exact (hTabs (48, 44) (by simp)).2
    · exact (hTabs (41, 37) (by simp)).2
  obtain ⟨W⟩ := wd_of (w := w) V T X hT
  obtain ⟨a, hL⟩ := def_of (w := w) T hT (d := dLaw) (mem_at V.r11)
  have ea : a = fa := by
    have h1 : mg dLaw.name = some (.ref a) := hL.mg
    rw [hm] at h1; injection h1 with h1; injection h1 with h1; exact h1.symm
  subst ea
  have go := law_opn W hL hl (sum_bn hl hlay)
  refine go callerA [37, 44] s₁ [.ref l] _ _ (gi_of hT) ⟨fun b hb => hb, fun b hb => ?_⟩ ⟨rfl, by decide, by decide, [], rfl, fun en h => (by cases h)⟩ ?_ fun v h' tk k g r => ?_
  · have hb' : b = 37 ∨ b = 44 := by simpa using hb
    refine ⟨?_, _, hT b (by rcases hb' with rfl | rfl <;> simp)⟩
    show (if b = 37 ∨ b = 44 then none else s₁.heap.get? b) = none
    rw [if_pos hb']
  · refine .cons ?_ .nil
    rw [ofPy] at hw
    cases hw with
    | list e r =>
      refine .list _ (fun z => ?_) e (well_ints r _)
      have hb' : l = 37 ∨ l = 44 := by simpa using z
      have := hT l (by rcases hb' with rfl | rfl <;> simp)
      rw [e] at this; cases this
  · cases r
    exact fin_of hTabs hg hr hp k g

-- names taken so that the head lays no string twins of its own (they would weigh 12 MB in the compiled file)
theorem top.tw16541100652227675460 : True := trivial
theorem top.tw3262874324069398678 : True := trivial
theorem top.tw18064794426631996164 : True := trivial
theorem top.tw12819366960792805191 : True := trivial
theorem top.tw11546936639936008217 : True := trivial
theorem top.tw15240379268576122478 : True := trivial
theorem top.tw6815640781856848509 : True := trivial
theorem top.tw13772058751527079181 : True := trivial
theorem top.tw11624971203582042403 : True := trivial
theorem top.tw4292695720768233569 : True := trivial
theorem top.tw10996937224433265937 : True := trivial
theorem top.tw13120753694373217308 : True := trivial
theorem top.tw8507776931139520737 : True := trivial
theorem top.tw14987219478266130788 : True := trivial
theorem top.tw8143265674769528471 : True := trivial
theorem top.tw814325599930780420 : True := trivial
theorem top.tw15169761463676818070 : True := trivial
theorem top.tw14917401599646851644 : True := trivial
theorem top.tw6491118196486620199 : True := trivial
theorem top.tw4571971715460732019 : True := trivial
theorem top.tw956942650209027819 : True := trivial
theorem top.tw16900427199656544559 : True := trivial
theorem top.tw11334415319851112604 : True := trivial
theorem top.tw10404823597219466188 : True := trivial
theorem top.tw7458633546980236471 : True := trivial
theorem top.tw2835187731363253809 : True := trivial
theorem top.tw5476889619067714990 : True := trivial
theorem top.tw1732150942055357024 : True := trivial
theorem top.tw8598144960395782539 : True := trivial
theorem top.tw2782073688633401757 : True := trivial
theorem top.tw17886615442053742456 : True := trivial
theorem top.tw1139600151236580504 : True := trivial
theorem top.tw9800703332001039478 : True := trivial
theorem top.tw11430207588045935325 : True := trivial
theorem top.tw4166218997396506358 : True := trivial
theorem top.tw17810072253543177317 : True := trivial
theorem top.tw14597223018079223185 : True := trivial
theorem top.tw908825868028484722 : True := trivial
theorem top.tw5105846836358774362 : True := trivial
theorem top.tw15646934709686841381 : True := trivial
theorem top.tw16204670001084760307 : True := trivial
theorem top.tw8813761850579938390 : True := trivial
theorem top.tw4655869559712951663 : True := trivial
theorem top.tw72247145696351765 : True := trivial
theorem top.tw2731995056826638727 : True := trivial
theorem top.tw13369591340354186047 : True := trivial
theorem top.tw2218668502564051296 : True := trivial
theorem top.tw10090393231696489298 : True := trivial
theorem top.tw14861896470697024400 : True := trivial
theorem top.tw5303079699428457377 : True := trivial
theorem top.tw788273225186049534 : True := trivial
theorem top.tw2464713573024523455 : True := trivial
theorem top.tw1886144042066472794 : True := trivial
theorem top.tw14823308797102314842 : True := trivial
theorem top.tw1736530178072539846 : True := trivial
theorem top.tw16782997733028217545 : True := trivial
theorem top.tw10005945817407372193 : True := trivial
theorem top.tw5155950481276406077 : True := trivial
theorem top.tw15228278448591571296 : True := trivial
theorem top.tw2287823674025257028 : True := trivial
theorem top.tw6906291655842520137 : True := trivial
theorem top.tw18086089286151905521 : True := trivial
theorem top.tw5597187220613765494 : True := trivial
theorem top.tw9601329371697537090 : True := trivial
theorem top.tw864819663365544661 : True := trivial
theorem top.tw10567129059001840431 : True := trivial
theorem top.tw13091174067606910046 : True := trivial
theorem top.tw9229161468869434483 : True := trivial
theorem top.tw1047907039808853306 : True := trivial
theorem top.tw5667650583090716360 : True := trivial
theorem top.tw9305691244287143441 : True := trivial
theorem top.tw6812286434817487243 : True := trivial
theorem top.tw2732273902793177162 : True := trivial
theorem top.tw8645369167282567922 : True := trivial
theorem top.tw11613256710310857696 : True := trivial
theorem top.tw16439428074185983240 : True := trivial
theorem top.tw14851680436948445374 : True := trivial
theorem top.tw11459358961799972967 : True := trivial
theorem top.tw14611434983143301774 : True := trivial
theorem top.tw9378254376102152143 : True := trivial
theorem top.tw10773188271377071773 : True := trivial
theorem top.tw17492772389151264855 : True := trivial
theorem top.tw15976228082101565994 : True := trivial
theorem top.tw14349089067433371257 : True := trivial
theorem top.tw14901070454687303710 : True := trivial
set_option Elab.async true in
theorem top : PySem.Challenge.rw_sh0022_01.Holds := by
  w_on; o_law; k_head; (case hw => w_witness2)
  intro w s₀ s₁ mg mb G Y fa o pm cd doc dV kV ho hd' hcd hD hmg hg args vals as hpre hlay hrd hwl hlo
  have KX := km_in_of Y
  have hT8 := km_tabs_of Y
  have hT9 : TabsAt [(48, 44), (41, 37)] s₁.heap := (List.forall_mem_cons.mpr ⟨⟨codeHd_of_K (c := 48) (P := 44) KX (by kernel_rfl), hT8 44 (by simp)⟩, List.forall_mem_cons.mpr ⟨⟨codeHd_of_K (c := 41) (P := 37) KX (by kernel_rfl), hT8 37 (by simp)⟩, fun _ h => nomatch h⟩⟩)
  wrow_args hpre hlay hrd hwl hlo
  refine join_of (P := w.params) (script := ?zzsc) ?zzV G.T KX hT9 hmg hg (fun _ _ => rfl) ?zzhp ?zzhl ?zzhlay ?zzhw
  case zzhw => assumption
  case zzhlay => assumption
  case zzhl => omega
  case zzhp => first | rfl | wrow_post
  case zzV => exact ⟨rfl, rfl, rfl, rfl, rfl, rfl, rfl, rfl, rfl, rfl, rfl, rfl, fun P => by kernel_rfl, fun P => by kernel_rfl, fun P => by kernel_rfl, fun P => by kernel_rfl, rfl, rfl, by decide +kernel⟩

end Mine

theorem PySem.Challenge.cw_sh0022_01_holds : PySem.Challenge.rw_sh0022_01.Holds := by
  exact Mine.top

