import PyProof.Rows.All
import Wide.All
import OpenK.AllK
import Wide.FinOn
import PySem.Challenge.RW_wc0010_01
open PySem PySem.W PyProof.Rows
set_option Elab.async false
set_option maxRecDepth 100000
set_option linter.unusedVariables false
namespace Mine
section
local macro_rules | `(tactic| o_head $_) => `(tactic| skip)
set_option maxHeartbeats 8000000 in
theorem fr (h : PySem.Challenge.rw_wc0010_01.row.Holds) : PySem.Challenge.rw_wc0010_01.row.Holds := by
  k_head
  exact h
end
inductive AV where
  | none
  | bool (b : Bool)
  | int (i : Int)
  | str (s : Str)
  | flt (x : UInt64)
  | list (xs : List AV)
  | tup (xs : List AV)
  | raw (v : Value)
mutual
inductive VR (h : Heap) (τ : Nat) (P : Addr → Prop) : AV → Value → Prop
  | none : VR h τ P .none .none
  | bool {b} : VR h τ P (.bool b) (.bool b)
  | int {i t} : VR h τ P (.int i) (.int i t)
  | str {s t} : VR h τ P (.str s) (.str s t)
  | flt {x t} : 0 < t → t < τ → VR h τ P (.flt x) (.float x t)
  | raw {v} : VR h τ P (.raw v) v
  | list {xs a vs} : P a → h.IsList a vs.toArray → VRs h τ P xs vs → VR h τ P (.list xs) (.ref a)
  | tup {xs a vs} : P a → h.IsTuple a vs.toArray → VRs h τ P xs vs → VR h τ P (.tup xs) (.ref a)
inductive VRs (h : Heap) (τ : Nat) (P : Addr → Prop) : List AV → List Value → Prop
  | nil : VRs h τ P [] []
  | cons {x xs v vs} : VR h τ P x v → VRs h τ P xs vs → VRs h τ P (x :: xs) (v :: vs)
end
theorem lenS {α : Type} {l : List α} {n : Nat} (h : l.length = n + 1) : ∃ a r, l = a :: r ∧ r.length = n := by
  cases l with
  | nil => exact Nat.noConfusion h
  | cons a r => exact ⟨a, r, rfl, Nat.succ.inj h⟩
theorem len1 {α : Type} {l : List α} (h : l.length = 1) : ∃ a, l = [a] := by
  obtain ⟨a, r, rfl, h2⟩ := lenS h
  exact ⟨a, by rw [List.eq_nil_of_length_eq_zero h2]⟩
theorem len2 {α : Type} {l : List α} (h : l.length = 2) : ∃ a b, l = [a, b] := by
  obtain ⟨a, r, rfl, h2⟩ := lenS h
  obtain ⟨b, rfl⟩ := len1 h2
  exact ⟨a, b, rfl⟩
theorem len3 {α : Type} {l : List α} (h : l.length = 3) : ∃ a b c, l = [a, b, c] := by
  obtain ⟨a, r, rfl, h2⟩ := lenS h
  obtain ⟨b, c, rfl⟩ := len2 h2
  exact ⟨a, b, c, rfl⟩
theorem len4 {α : Type} {l : List α} (h : l.length = 4) : ∃ a b c d, l = [a, b, c, d] := by
  obtain ⟨a, r, rfl, h2⟩ := lenS h
  obtain ⟨b, c, d, rfl⟩ := len3 h2
  exact ⟨a, b, c, d, rfl⟩
section
variable {h h' : Heap} {τ τ' : Nat} {P P' : Addr → Prop}
theorem VR.mv (hk : ∀ a o, P a → h.get? a = some o → h'.get? a = some o ∧ P' a) (ht : τ ≤ τ') : ∀ {x v}, VR h τ P x v → VR h' τ' P' x v := fun y =>
  VR.rec (motive_1 := fun x v _ => VR h' τ' P' x v) (motive_2 := fun x v _ => VRs h' τ' P' x v) .none .bool .int .str (fun a b => .flt a (Nat.lt_of_lt_of_le b ht)) .raw
    (fun pa hl _ r => .list (hl.elim fun o e => (hk _ o pa e.1).2) (hl.at fun o e => (hk _ o pa e).1) r) (fun pa hl _ r => .tup (hl.elim fun o e => (hk _ o pa e.1).2) (hl.elim fun o e => ⟨o, (hk _ o pa e.1).1, e.2⟩) r) .nil (fun _ _ a b => .cons a b) y
theorem VRs.mv (hk : ∀ a o, P a → h.get? a = some o → h'.get? a = some o ∧ P' a) (ht : τ ≤ τ') : ∀ {x v}, VRs h τ P x v → VRs h' τ' P' x v := fun y =>
  VRs.rec (motive_1 := fun _ _ _ => True) (motive_2 := fun x v _ => VRs h' τ' P' x v) trivial trivial trivial trivial (fun _ _ => trivial) trivial (fun _ _ _ _ => trivial) (fun _ _ _ _ => trivial) .nil (fun a _ _ b => .cons (a.mv hk ht) b) y
theorem VR.mono (hk : ∀ a o, P a → h.get? a = some o → h'.get? a = some o) (hp : ∀ a, P a → P' a) (ht : τ ≤ τ' := by exact Nat.le_refl _) : ∀ {x v}, VR h τ P x v → VR h' τ' P' x v := VR.mv (fun a o p e => ⟨hk a o p e, hp a p⟩) ht
theorem VRs.mono (hk : ∀ a o, P a → h.get? a = some o → h'.get? a = some o) (hp : ∀ a, P a → P' a) (ht : τ ≤ τ' := by exact Nat.le_refl _) : ∀ {xs vs}, VRs h τ P xs vs → VRs h' τ' P' xs vs := VRs.mv (fun a o p e => ⟨hk a o p e, hp a p⟩) ht
noncomputable def VRi (h : Heap) (τ : Nat) (P : Addr → Prop) (v : Value) : AV → Prop
  | .none => v = .none
  | .bool b => v = .bool b
  | .int i => ∃ t, v = .int i t
  | .str x => ∃ t, v = .str x t
  | .flt x => ∃ t, v = .float x t ∧ 0 < t ∧ t < τ
  | .raw u => v = u
  | .list xs => ∃ a vs, v = .ref a ∧ P a ∧ h.IsList a vs.toArray ∧ VRs h τ P xs vs
  | .tup xs => ∃ a vs, v = .ref a ∧ P a ∧ h.IsTuple a vs.toArray ∧ VRs h τ P xs vs
theorem VR.inv {x v} (y : VR h τ P x v) : VRi h τ P v x :=
  VR.rec (motive_1 := fun x v _ => VRi h τ P v x) (motive_2 := fun _ _ _ => True) rfl rfl ⟨_, rfl⟩ ⟨_, rfl⟩ (fun a b => ⟨_, rfl, a, b⟩) rfl (fun a b c _ => ⟨_, _, rfl, a, b, c⟩) (fun a b c _ => ⟨_, _, rfl, a, b, c⟩) trivial (fun _ _ _ _ => trivial) y
theorem VR.noneI {v} (y : VR h τ P .none v) : v = .none := y.inv
theorem VR.boolI {b v} (y : VR h τ P (.bool b) v) : v = .bool b := y.inv
theorem VR.intI {i v} (y : VR h τ P (.int i) v) : ∃ t, v = .int i t := y.inv
theorem VR.strI {x v} (y : VR h τ P (.str x) v) : ∃ t, v = .str x t := y.inv
theorem VR.fltI {x v} (y : VR h τ P (.flt x) v) : ∃ t, v = .float x t ∧ 0 < t ∧ t < τ := y.inv
theorem VR.rawI {u v} (y : VR h τ P (.raw u) v) : v = u := y.inv
theorem VR.listI {xs v} (y : VR h τ P (.list xs) v) : ∃ a vs, v = .ref a ∧ P a ∧ h.IsList a vs.toArray ∧ VRs h τ P xs vs := y.inv
theorem VR.tupI {xs v} (y : VR h τ P (.tup xs) v) : ∃ a vs, v = .ref a ∧ P a ∧ h.IsTuple a vs.toArray ∧ VRs h τ P xs vs := y.inv
noncomputable def VRsi (h : Heap) (τ : Nat) (P : Addr → Prop) (us : List Value) : List AV → Prop
  | [] => us = []
  | x :: xs => ∃ v vs, us = v :: vs ∧ VR h τ P x v ∧ VRs h τ P xs vs
theorem VRs.inv {x v} (y : VRs h τ P x v) : VRsi h τ P v x :=
  VRs.rec (motive_1 := fun _ _ _ => True) (motive_2 := fun x v _ => VRsi h τ P v x) trivial trivial trivial trivial (fun _ _ => trivial) trivial (fun _ _ _ _ => trivial) (fun _ _ _ _ => trivial) rfl (fun a b _ _ => ⟨_, _, rfl, a, b⟩) y
theorem VRs.nilI {us} (y : VRs h τ P [] us) : us = [] := y.inv
theorem VRs.consI {x xs us} (y : VRs h τ P (x :: xs) us) : ∃ v vs, us = v :: vs ∧ VR h τ P x v ∧ VRs h τ P xs vs := y.inv
theorem VRs.one {x us} (y : VRs h τ P [x] us) : ∃ v, us = [v] ∧ VR h τ P x v := by
  obtain ⟨v, vs, rfl, a, b⟩ := y.consI
  exact ⟨v, by rw [b.nilI], a⟩
theorem VRs.two {x x2 us} (y : VRs h τ P [x, x2] us) : ∃ v v2, us = [v, v2] ∧ VR h τ P x v ∧ VR h τ P x2 v2 := by
  obtain ⟨v, vs, rfl, a, b⟩ := y.consI
  obtain ⟨v2, rfl, b2⟩ := b.one
  exact ⟨v, v2, rfl, a, b2⟩
theorem VRs.three {x x2 x3 us} (y : VRs h τ P [x, x2, x3] us) : ∃ v v2 v3, us = [v, v2, v3] ∧ VR h τ P x v ∧ VR h τ P x2 v2 ∧ VR h τ P x3 v3 := by
  obtain ⟨v, vs, rfl, a, b⟩ := y.consI
  obtain ⟨v2, v3, rfl, b2, c⟩ := b.two
  exact ⟨v, v2, v3, rfl, a, b2, c⟩
theorem VRs.length : ∀ {xs vs}, VRs h τ P xs vs → xs.length = vs.length
  | _, _, .nil => rfl
  | _, _, .cons _ t => congrArg (· + 1) (VRs.length t)
theorem VRs.append : ∀ {xs vs ys us}, VRs h τ P xs vs → VRs h τ P ys us → VRs h τ P (xs ++ ys) (vs ++ us)
  | _, _, _, _, .nil, t => t
  | _, _, _, _, .cons a b, t => .cons a (VRs.append b t)
theorem VRs.get : ∀ {xs vs} (i : Nat) {x}, VRs h τ P xs vs → xs[i]? = some x → ∃ v, vs[i]? = some v ∧ VR h τ P x v
  | _, _, _, _, .nil, e => by simp at e
  | _, _, 0, _, .cons a _, e => ⟨_, rfl, by simpa using (by simpa using e : _ = _) ▸ a⟩
  | _, _, i + 1, _, .cons _ t, e => VRs.get i t (by simpa using e)
theorem VRs.set : ∀ {xs vs} (i : Nat) {x v}, VRs h τ P xs vs → VR h τ P x v → VRs h τ P (xs.set i x) (vs.set i v)
  | _, _, _, _, _, .nil, _ => .nil
  | _, _, 0, _, _, .cons _ t, y => .cons y t
  | _, _, i + 1, _, _, .cons a t, y => .cons a (VRs.set i t y)
end
noncomputable def Tb : List Addr := [37, 44, 129]
structure G0 where
  prog : Program
  w : World
  K : Frag
  g : Heap
  p : Program
  loose : List Str
  mean : ExcName → Option Value
  mg : Str → Option Value
  mb : Str → Option Value
  TO : (Addr → Prop) → Heap → Prop
structure G0.Ok (G : G0) : Prop where
  X : G.K.In G.g
  T : Top G.p G.loose G.mean G.mg G.mb G.g
  hide : ∀ a ∈ Tb, G.g.get? a = none
  tok : ∀ (P : Addr → Prop) (h h' : Heap), G.TO P h → (∀ a o, P a ∨ a ∈ Tb → h.get? a = some o → h'.get? a = some o) → G.TO P h'
  tmono : ∀ (P P' : Addr → Prop) (h : Heap), G.TO P h → (∀ a o, P a → h.get? a = some o → P' a) → G.TO P' h
  tsep : ∀ (P : Addr → Prop) (h : Heap) (a : Addr) (ob : Obj), G.TO P h → h.get? a = some ob → (∀ vs, ob.data ≠ .fields vs) → G.TO (fun b => P b ∧ b ≠ a) h
  tlive : ∀ (P : Addr → Prop) (h : Heap), G.TO P h → ∀ a ∈ Tb, ∃ ob, h.get? a = some ob
structure Kp (L : List Addr) (s s' : Shared) : Prop where
  same : ∃ h tk, s' = { s with heap := h, toks := tk }
  keep : ∀ a o, a ∉ L → s.heap.get? a = some o → s'.heap.get? a = some o
  live : ∀ a o, s.heap.get? a = some o → ∃ o', s'.heap.get? a = some o'
  le : s.toks ≤ s'.toks
theorem Kp.refl {L} (s : Shared) : Kp L s s := ⟨⟨_, _, rfl⟩, fun _ _ _ e => e, fun _ o e => ⟨o, e⟩, Nat.le_refl _⟩
theorem Kp.trans {L} {a b c : Shared} (x : Kp L a b) (y : Kp L b c) : Kp L a c := by
  have le := Nat.le_trans x.le y.le
  obtain ⟨h, tk, rfl⟩ := x.same
  obtain ⟨h', tk', rfl⟩ := y.same
  exact ⟨⟨h', tk', rfl⟩, fun a o n e => y.keep a o n (x.keep a o n e), fun a o e => by obtain ⟨o', e'⟩ := x.live a o e; exact y.live a o' e', le⟩
theorem Kp.mono {L L' : List Addr} {s s' : Shared} (x : Kp L s s') (h : ∀ a ∈ L, a ∈ L') : Kp L' s s' := ⟨x.same, fun a o n e => x.keep a o (fun q => n (h a q)) e, x.live, x.le⟩
theorem Kp.of {L} {s : Shared} {h : Heap} {tk : Nat} (k : ∀ a o, s.heap.get? a = some o → h.get? a = some o) (le : s.toks ≤ tk := by omega) : Kp L s { s with heap := h, toks := tk } := ⟨⟨h, tk, rfl⟩, fun a o _ e => k a o e, fun a o e => ⟨o, k a o e⟩, le⟩
theorem Kp.none {L} {s s' : Shared} (x : Kp L s s') {a : Addr} (h : s'.heap.get? a = .none) : s.heap.get? a = .none := by
  cases e : s.heap.get? a with
  | none => rfl
  | some o => obtain ⟨o', e'⟩ := x.live a o e; rw [h] at e'; cases e'
structure Ext (G : G0) (s s' : Shared) : Prop extends Kp Tb s s' where
  tabs : ∀ P : Addr → Prop, (∀ a, s.heap.get? a = none → P a) → G.TO P s.heap → G.TO P s'.heap
theorem Ext.refl {G : G0} (s : Shared) : Ext G s s := ⟨.refl s, fun _ _ t => t⟩
theorem Ext.trans {G : G0} {a b c : Shared} (x : Ext G a b) (y : Ext G b c) : Ext G a c := ⟨x.toKp.trans y.toKp, fun P f t => y.tabs P (fun a e => f a (x.toKp.none e)) (x.tabs P f t)⟩
theorem Ext.of {G : G0} (o : G.Ok) {s : Shared} {h : Heap} {tk : Nat} (k : ∀ a o, s.heap.get? a = some o → h.get? a = some o) (le : s.toks ≤ tk := by omega) : Ext G s { s with heap := h, toks := tk } := ⟨.of k le, fun P _ t => o.tok P _ _ t fun a ob _ e => k a ob e⟩
theorem Ext.tok {G : G0} {s : Shared} {tk : Nat} (le : s.toks ≤ tk := by omega) : Ext G s { s with toks := tk } := ⟨⟨⟨_, tk, rfl⟩, fun _ _ _ e => e, fun _ o e => ⟨o, e⟩, le⟩, fun _ _ t => t⟩
structure Glob (G : G0) (P : Addr → Prop) (s : Shared) : Prop where
  keep : ∀ a o, G.g.get? a = some o → s.heap.get? a = some o
  tabs : G.TO P s.heap
  gens : s.gens = #[]
  pos : 0 < s.toks
theorem Glob.ext {G : G0} {P : Addr → Prop} (o : G.Ok) {s s' : Shared} (x : Glob G P s) (e : Ext G s s') (f : ∀ a, s.heap.get? a = none → P a) : Glob G P s' := by
  refine ⟨fun a ob h => e.keep a ob (fun hm => ?_) (x.keep a ob h), e.tabs P f x.tabs, ?_, ?_⟩
  · rw [o.hide a hm] at h; cases h
  · obtain ⟨h, tk, rfl⟩ := e.same; exact x.gens
  · exact Nat.lt_of_lt_of_le x.pos e.le
theorem Glob.top {G : G0} {P : Addr → Prop} (o : G.Ok) {s : Shared} (x : Glob G P s) : Top G.p G.loose G.mean G.mg G.mb s.heap := o.T.keeps x.keep
theorem Glob.kin {G : G0} {P : Addr → Prop} (o : G.Ok) {s : Shared} (x : Glob G P s) : G.K.In s.heap := fun a ob e => x.keep a ob (o.X a ob e)
structure Cx where
  G : G0
  A : Around
  env : Env
  Φ : Shared → Prop
  P : Addr → Prop
structure Cx.Ok (c : Cx) : Prop where
  g : c.G.Ok
  glob : ∀ s, c.Φ s → Glob c.G c.P s
  stab : ∀ s s', c.Φ s → Ext c.G s s' → c.Φ s'
  fresh : ∀ s a, c.Φ s → s.heap.get? a = none → c.P a
  pt : ∀ a, c.P a → a ∉ Tb
  hd : c.A.handled = none
  room : c.A.depth + 30 < recursionLimit
  units : c.A.units + 400 < cLine
  kind : c.env.scope.kind = .function
  eg : c.env.globals = mainGlobals
  eb : c.env.builtins = builtinsNs
theorem VR.ext {c : Cx} (o : c.Ok) {s s' : Shared} (e : Ext c.G s s') {x v} (r : VR s.heap s.toks c.P x v) : VR s'.heap s'.toks c.P x v :=
  r.mono (fun a ob pa he => e.keep a ob (o.pt a pa) he) (fun _ h => h) e.le
theorem VRs.ext {c : Cx} (o : c.Ok) {s s' : Shared} (e : Ext c.G s s') {x v} (r : VRs s.heap s.toks c.P x v) : VRs s'.heap s'.toks c.P x v :=
  r.mono (fun a ob pa he => e.keep a ob (o.pt a pa) he) (fun _ h => h) e.le
noncomputable abbrev Cx.M (c : Cx) : Model := model c.G.prog c.G.w
noncomputable def TreeR (c : Cx) (t : Sem Value) (s : Shared) (r : AV) : Prop :=
  ∀ Q E, (∀ v s', Ext c.G s s' → VR s'.heap s'.toks c.P r v → Q v s') → wpAny c.M c.A t Q E s
noncomputable def EvE (c : Cx) (e : Expr) (r : AV) : Prop := c.Ok → ∀ s, c.Φ s → TreeR c (eval e c.env) s r
noncomputable def EvT (c : Cx) (e : Expr) (b : Bool) : Prop := c.Ok → ∀ s Q E, c.Φ s → (∀ s', Ext c.G s s' → Q b s') → wpAny c.M c.A (isTrue e c.env (eval e c.env)) Q E s
noncomputable def Has (c : Cx) (x : Str) (r : AV) : Prop := c.Ok → ∀ s, c.Φ s → ∃ v, VR s.heap s.toks c.P r v ∧ ∀ Q E, Q v s → wpAny c.M c.A (loadName c.env x) Q E s
theorem EvE.name {c : Cx} {x : Str} {pos : Pos} {r : AV} (h : Has c x r) (hd : (x == ("__debug__" : Str)) = false := by decide) : EvE c (.Name x pos) r := fun o s hs Q E k => by
  obtain ⟨v, hv, hl⟩ := h o s hs
  exact wpAny_Name (hl _ _ (k v s (.refl s) hv)) hd
theorem EvE.int {c : Cx} {i k pos} : EvE c (.Constant (.int i) k pos) (.int i) := fun _ s _ _ _ k => wpAny_Constant_int (k _ _ .tok .int)
theorem EvE.str {c : Cx} {x k pos} : EvE c (.Constant (.str x) k pos) (.str x) := fun _ s _ _ _ k => Calls.Constant_str (k _ _ .tok .str)
theorem EvE.cbool {c : Cx} {x k pos} : EvE c (.Constant (.bool x) k pos) (.bool x) := fun _ s _ _ _ k => Constant_bool (k _ _ (.refl s) .bool)
theorem EvE.cnone {c : Cx} {k pos} : EvE c (.Constant .none k pos) .none := fun _ s _ _ _ k => Constant_none (k _ _ (.refl s) .none)
theorem EvE.two {c : Cx} {e1 e2 : Expr} {r1 r2 : AV} (h1 : EvE c e1 r1) (h2 : EvE c e2 r2) (o : c.Ok) {s : Shared} (hs : c.Φ s) {α : Type} {t : Value → Value → Sem α} {Q : α → Shared → Prop} {E : Value → Shared → Prop}
    (k : ∀ v1 v2 s', Ext c.G s s' → c.Φ s' → VR s'.heap s'.toks c.P r1 v1 → VR s'.heap s'.toks c.P r2 v2 → wpAny c.M c.A (t v1 v2) Q E s') :
    wpAny c.M c.A (eval e1 c.env) (fun v1 s₁ => wpAny c.M c.A (eval e2 c.env) (fun v2 s₂ => wpAny c.M c.A (t v1 v2) Q E s₂) E s₁) E s := by
  refine h1 o s hs _ _ fun v1 s1 x1 y1 => ?_
  refine h2 o s1 (o.stab _ _ hs x1) _ _ fun v2 s2 x2 y2 => ?_
  exact k v1 v2 s2 (x1.trans x2) (o.stab _ _ hs (x1.trans x2)) (y1.ext o x2) y2
noncomputable def OpR (c : Cx) (t : Value → Value → Sem Value) (r1 r2 res : AV) : Prop :=
  c.Ok → ∀ s v1 v2, c.Φ s → VR s.heap s.toks c.P r1 v1 → VR s.heap s.toks c.P r2 v2 → TreeR c (t v1 v2) s res
theorem EvE.bin {c : Cx} {op l r pos r1 r2 res} (h1 : EvE c l r1) (h2 : EvE c r r2) (hop : OpR c (binaryOp op) r1 r2 res) : EvE c (.BinOp l op r pos) res := fun o s hs Q E k =>
  wpAny_BinOp (h1.two h2 o hs fun v1 v2 s' x hs' y1 y2 => hop o s' v1 v2 hs' y1 y2 _ _ fun v s'' x' y => k v s'' (x.trans x') y)
section
variable {c : Cx} {a b : Int}
theorem OpR.add : OpR c (binaryOp .Add) (.int a) (.int b) (.int (a + b)) := by
  intro o s v1 v2 hs y1 y2 Q E k; (first | ((first | replace y1 := VR.intI y1 | replace y1 := VR.strI y1); obtain ⟨_, rfl⟩ := y1) | ((first | replace y1 := VR.rawI y1 | replace y1 := VRs.nilI y1 | replace y1 := VR.boolI y1 | replace y1 := VR.noneI y1); subst y1) | cases y1); (first | ((first | replace y2 := VR.intI y2 | replace y2 := VR.strI y2); obtain ⟨_, rfl⟩ := y2) | ((first | replace y2 := VR.rawI y2 | replace y2 := VRs.nilI y2 | replace y2 := VR.boolI y2 | replace y2 := VR.noneI y2); subst y2) | cases y2); exact add_int (k _ _ .tok .int)
theorem OpR.sub : OpR c (binaryOp .Sub) (.int a) (.int b) (.int (a - b)) := by
  intro o s v1 v2 hs y1 y2 Q E k; (first | ((first | replace y1 := VR.intI y1 | replace y1 := VR.strI y1); obtain ⟨_, rfl⟩ := y1) | ((first | replace y1 := VR.rawI y1 | replace y1 := VRs.nilI y1 | replace y1 := VR.boolI y1 | replace y1 := VR.noneI y1); subst y1) | cases y1); (first | ((first | replace y2 := VR.intI y2 | replace y2 := VR.strI y2); obtain ⟨_, rfl⟩ := y2) | ((first | replace y2 := VR.rawI y2 | replace y2 := VRs.nilI y2 | replace y2 := VR.boolI y2 | replace y2 := VR.noneI y2); subst y2) | cases y2); exact sub_int (k _ _ .tok .int)
theorem OpR.mul (hm : IntMulOk a b) : OpR c (binaryOp .Mult) (.int a) (.int b) (.int (a * b)) := by
  intro o s v1 v2 hs y1 y2 Q E k; (first | ((first | replace y1 := VR.intI y1 | replace y1 := VR.strI y1); obtain ⟨_, rfl⟩ := y1) | ((first | replace y1 := VR.rawI y1 | replace y1 := VRs.nilI y1 | replace y1 := VR.boolI y1 | replace y1 := VR.noneI y1); subst y1) | cases y1); (first | ((first | replace y2 := VR.intI y2 | replace y2 := VR.strI y2); obtain ⟨_, rfl⟩ := y2) | ((first | replace y2 := VR.rawI y2 | replace y2 := VRs.nilI y2 | replace y2 := VR.boolI y2 | replace y2 := VR.noneI y2); subst y2) | cases y2); exact mul_int (k _ _ .tok .int) hm
theorem OpR.fdiv (hb : b ≠ 0) (hb2 : b.natAbs < 1073741824) : OpR c (binaryOp .FloorDiv) (.int a) (.int b) (.int (a.fdiv b)) := by
  intro o s v1 v2 hs y1 y2 Q E k; (first | ((first | replace y1 := VR.intI y1 | replace y1 := VR.strI y1); obtain ⟨_, rfl⟩ := y1) | ((first | replace y1 := VR.rawI y1 | replace y1 := VRs.nilI y1 | replace y1 := VR.boolI y1 | replace y1 := VR.noneI y1); subst y1) | cases y1); (first | ((first | replace y2 := VR.intI y2 | replace y2 := VR.strI y2); obtain ⟨_, rfl⟩ := y2) | ((first | replace y2 := VR.rawI y2 | replace y2 := VRs.nilI y2 | replace y2 := VR.boolI y2 | replace y2 := VR.noneI y2); subst y2) | cases y2); exact floordiv_int hb (k _ _ .tok .int) (.inl (PyProof.noPylong_small hb2))
theorem OpR.fmod (hb : b ≠ 0) (hb2 : b.natAbs < 1073741824) : OpR c (binaryOp .Mod) (.int a) (.int b) (.int (a.fmod b)) := by
  intro o s v1 v2 hs y1 y2 Q E k; (first | ((first | replace y1 := VR.intI y1 | replace y1 := VR.strI y1); obtain ⟨_, rfl⟩ := y1) | ((first | replace y1 := VR.rawI y1 | replace y1 := VRs.nilI y1 | replace y1 := VR.boolI y1 | replace y1 := VR.noneI y1); subst y1) | cases y1); (first | ((first | replace y2 := VR.intI y2 | replace y2 := VR.strI y2); obtain ⟨_, rfl⟩ := y2) | ((first | replace y2 := VR.rawI y2 | replace y2 := VRs.nilI y2 | replace y2 := VR.boolI y2 | replace y2 := VR.noneI y2); subst y2) | cases y2); exact mod_int' hb (k _ _ .tok .int)
theorem OpR.pow (hn : 0 ≤ b) (hn2 : b ≤ 1000000) (ha : a.natAbs < 2 ^ 64) : OpR c (binaryOp .Pow) (.int a) (.int b) (.int (a ^ b.toNat)) := by
  intro o s v1 v2 hs y1 y2 Q E k; (first | ((first | replace y1 := VR.intI y1 | replace y1 := VR.strI y1); obtain ⟨_, rfl⟩ := y1) | ((first | replace y1 := VR.rawI y1 | replace y1 := VRs.nilI y1 | replace y1 := VR.boolI y1 | replace y1 := VR.noneI y1); subst y1) | cases y1); (first | ((first | replace y2 := VR.intI y2 | replace y2 := VR.strI y2); obtain ⟨_, rfl⟩ := y2) | ((first | replace y2 := VR.rawI y2 | replace y2 := VRs.nilI y2 | replace y2 := VR.boolI y2 | replace y2 := VR.noneI y2); subst y2) | cases y2); exact pow_int_small hn hn2 ha (k _ _ .tok .int)
theorem OpR.shl (hn : 0 ≤ b) (hn2 : b ≤ 1000000) (ha : a.natAbs < 2 ^ 64) : OpR c (binaryOp .LShift) (.int a) (.int b) (.int (a * 2 ^ b.toNat)) := by
  intro o s v1 v2 hs y1 y2 Q E k; (first | ((first | replace y1 := VR.intI y1 | replace y1 := VR.strI y1); obtain ⟨_, rfl⟩ := y1) | ((first | replace y1 := VR.rawI y1 | replace y1 := VRs.nilI y1 | replace y1 := VR.boolI y1 | replace y1 := VR.noneI y1); subst y1) | cases y1); (first | ((first | replace y2 := VR.intI y2 | replace y2 := VR.strI y2); obtain ⟨_, rfl⟩ := y2) | ((first | replace y2 := VR.rawI y2 | replace y2 := VRs.nilI y2 | replace y2 := VR.boolI y2 | replace y2 := VR.noneI y2); subst y2) | cases y2); exact lshift_int_small hn hn2 ha (k _ _ .tok .int)
theorem OpR.shr (hn : 0 ≤ b) : OpR c (binaryOp .RShift) (.int a) (.int b) (.int (a.fdiv (2 ^ b.toNat))) := by
  intro o s v1 v2 hs y1 y2 Q E k; (first | ((first | replace y1 := VR.intI y1 | replace y1 := VR.strI y1); obtain ⟨_, rfl⟩ := y1) | ((first | replace y1 := VR.rawI y1 | replace y1 := VRs.nilI y1 | replace y1 := VR.boolI y1 | replace y1 := VR.noneI y1); subst y1) | cases y1); (first | ((first | replace y2 := VR.intI y2 | replace y2 := VR.strI y2); obtain ⟨_, rfl⟩ := y2) | ((first | replace y2 := VR.rawI y2 | replace y2 := VRs.nilI y2 | replace y2 := VR.boolI y2 | replace y2 := VR.noneI y2); subst y2) | cases y2); exact rshift_int hn (k _ _ .tok .int)
theorem OpR.band : OpR c (binaryOp .BitAnd) (.int a) (.int b) (.int (Builtin.bitAnd a b)) := by
  intro o s v1 v2 hs y1 y2 Q E k; (first | ((first | replace y1 := VR.intI y1 | replace y1 := VR.strI y1); obtain ⟨_, rfl⟩ := y1) | ((first | replace y1 := VR.rawI y1 | replace y1 := VRs.nilI y1 | replace y1 := VR.boolI y1 | replace y1 := VR.noneI y1); subst y1) | cases y1); (first | ((first | replace y2 := VR.intI y2 | replace y2 := VR.strI y2); obtain ⟨_, rfl⟩ := y2) | ((first | replace y2 := VR.rawI y2 | replace y2 := VRs.nilI y2 | replace y2 := VR.boolI y2 | replace y2 := VR.noneI y2); subst y2) | cases y2); exact and_int (k _ _ .tok .int)
theorem OpR.bxor : OpR c (binaryOp .BitXor) (.int a) (.int b) (.int (Builtin.bitXor a b)) := by
  intro o s v1 v2 hs y1 y2 Q E k; (first | ((first | replace y1 := VR.intI y1 | replace y1 := VR.strI y1); obtain ⟨_, rfl⟩ := y1) | ((first | replace y1 := VR.rawI y1 | replace y1 := VRs.nilI y1 | replace y1 := VR.boolI y1 | replace y1 := VR.noneI y1); subst y1) | cases y1); (first | ((first | replace y2 := VR.intI y2 | replace y2 := VR.strI y2); obtain ⟨_, rfl⟩ := y2) | ((first | replace y2 := VR.rawI y2 | replace y2 := VRs.nilI y2 | replace y2 := VR.boolI y2 | replace y2 := VR.noneI y2); subst y2) | cases y2); exact xor_int (k _ _ .tok .int)
end
theorem EvE.neg {c : Cx} {x pos} {a : Int} (h : EvE c x (.int a)) : EvE c (.UnaryOp .USub x pos) (.int (-a)) := fun o s hs Q E k =>
  UnaryOp_ (h o s hs _ _ fun v s1 x1 y1 => by (first | ((first | replace y1 := VR.intI y1 | replace y1 := VR.strI y1); obtain ⟨_, rfl⟩ := y1) | ((first | replace y1 := VR.rawI y1 | replace y1 := VRs.nilI y1 | replace y1 := VR.boolI y1 | replace y1 := VR.noneI y1); subst y1) | cases y1); exact neg_int (k _ _ (x1.trans .tok) .int))
theorem EvE.inv {c : Cx} {x pos} {a : Int} (h : EvE c x (.int a)) : EvE c (.UnaryOp .Invert x pos) (.int (Builtin.bitNot a)) := fun o s hs Q E k =>
  UnaryOp_ (h o s hs _ _ fun v s1 x1 y1 => by (first | ((first | replace y1 := VR.intI y1 | replace y1 := VR.strI y1); obtain ⟨_, rfl⟩ := y1) | ((first | replace y1 := VR.rawI y1 | replace y1 := VRs.nilI y1 | replace y1 := VR.boolI y1 | replace y1 := VR.noneI y1); subst y1) | cases y1); exact invert_int (k _ _ (x1.trans .tok) .int))
noncomputable def AV.atom : AV → Bool
  | .list _ => false
  | .tup _ => false
  | _ => true
theorem VR.atom {h h' : Heap} {τ τ' : Nat} {P P' : Addr → Prop} {x : AV} {v : Value} (r : VR h τ P x v) (a : x.atom = true) (ht : τ ≤ τ' := by exact Nat.le_refl _) : VR h' τ' P' x v := by
  cases r <;> first | (exfalso; simp [AV.atom] at a; done) | exact .flt (by assumption) (Nat.lt_of_lt_of_le (by assumption) ht) | constructor
theorem VRs.atoms {h h' : Heap} {τ τ' : Nat} {P P' : Addr → Prop} : ∀ {xs vs}, VRs h τ P xs vs → (xs.all AV.atom) = true → (ht : τ ≤ τ' := by exact Nat.le_refl _) → VRs h' τ' P' xs vs
  | _, _, .nil, _, _ => .nil
  | _, _, .cons a t, e, ht => by
    simp only [List.all_cons, Bool.and_eq_true] at e
    exact .cons (a.atom e.1 ht) (VRs.atoms t e.2 ht)
noncomputable def EvF (c : Cx) (e : Expr) (r : AV) : Prop := c.Ok → ∀ s Q E, c.Φ s → (∀ v s', Ext c.G s s' → VR s'.heap s'.toks (fun a => s.heap.get? a = none) r v → Q v s') → wpAny c.M c.A (eval e c.env) Q E s
theorem EvF.of_atom {c : Cx} {e r} (h : EvE c e r) (a : r.atom = true) : EvF c e r := fun o s Q E hs k => h o s hs _ _ fun v s' x y => k v s' x (y.atom a)
theorem EvF.ev {c : Cx} {e r} (h : EvF c e r) : EvE c e r := fun o s hs Q E k => h o s _ _ hs fun v s' x y => k v s' x (y.mono (fun _ _ _ e => e) fun a ha => o.fresh s a hs ha)
structure EvA (c : Cx) (es : List Expr) (rs : List AV) : Prop where
  plain : (starEach es c.env).any (·.1) = false
  ev : c.Ok → ∀ pos s Q E, c.Φ s → (∀ vs s', Ext c.G s s' → VRs s'.heap s'.toks c.P rs vs → Q vs s') → wpAny c.M c.A (spliced (backTo pos (starEach es c.env))) Q E s
theorem EvA.nil {c : Cx} : EvA c [] [] := ⟨rfl, fun o pos s Q E hs k => wpAny_items_nil (k _ _ (.refl s) .nil)⟩
theorem EvA.cons {c : Cx} {e es r rs} (h : EvE c e r) (t : EvA c es rs) (he : starEach (e :: es) c.env = (false, eval e c.env) :: starEach es c.env := by rfl) : EvA c (e :: es) (r :: rs) := ⟨by rw [he, List.any_cons, t.plain]; rfl, fun o pos s Q E hs k => by
  refine wpAny_items_cons ?_ he
  refine h o s hs _ _ fun v s1 x1 y1 => ?_
  refine t.ev o pos s1 _ _ (o.stab _ _ hs x1) fun vs s2 x2 y2 => ?_
  exact k _ _ (x1.trans x2) (.cons (y1.ext o x2) y2)⟩
theorem ext_push {c : Cx} (o : c.Ok) {s : Shared} {ob : Obj} : Ext c.G s { s with heap := s.heap.push ob } :=
  Ext.of (tk := s.toks) o.g (fun _ _ e => Heap.get?_push_of_some _ e)
theorem size_none (h : Heap) : h.get? h.objs.size = none := by
  cases e : h.get? h.objs.size with
  | none => rfl
  | some o => exact absurd (Heap.lt_size e) (Nat.lt_irrefl _)
theorem EvE.tuple {c : Cx} {es k pos rs} (h : EvA c es rs) (hn : rs.length ≤ 1000 := by decide) : EvE c (.Tuple es k pos) (.tup rs) := fun o s hs Q E kk => by
  refine wpAny_Tuple ?_
  refine h.ev o pos s _ _ hs fun vs s1 x1 y1 => ⟨?_, ?_⟩
  · rw [← y1.length]; exact Nat.le_trans hn (by decide)
  · have x2 := ext_push o (s := s1) (ob := { cls := .type "tuple", data := .seq vs.toArray })
    exact kk _ _ (x1.trans x2) (.tup (o.fresh s1 _ (o.stab _ _ hs x1) (size_none _)) ⟨_, Heap.get?_push_size _ rfl, rfl, _, rfl⟩ (y1.ext o x2))
theorem EvE.list {c : Cx} {es pos rs} (h : EvA c es rs) (hn : rs.length ≤ 1000 := by decide) : EvE c (.List es pos) (.list rs) := fun o s hs Q E kk => by
  refine wpAny_List ?_
  refine h.ev o pos s _ _ hs fun vs s1 x1 y1 => ⟨?_, ?_⟩
  · rw [← y1.length]; exact Nat.le_trans hn (by decide)
  · have x2 := ext_push o (s := s1) (ob := { cls := .type "list", data := .seq vs.toArray })
    exact kk _ _ (x1.trans x2) (.list (o.fresh s1 _ (o.stab _ _ hs x1) (size_none _)) ⟨_, Heap.get?_push_size _ rfl, rfl, _, rfl⟩ (y1.ext o x2))
theorem EvF.tuple {c : Cx} {es k pos rs} (h : EvA c es rs) (ha : rs.all AV.atom = true) (hn : rs.length ≤ 1000 := by decide) : EvF c (.Tuple es k pos) (.tup rs) := fun o s Q E hs kk => by
  refine wpAny_Tuple ?_
  refine h.ev o pos s _ _ hs fun vs s1 x1 y1 => ⟨?_, ?_⟩
  · rw [← y1.length]; exact Nat.le_trans hn (by decide)
  · have x2 := ext_push o (s := s1) (ob := { cls := .type "tuple", data := .seq vs.toArray })
    exact kk _ _ (x1.trans x2) (.tup (x1.none (size_none _)) ⟨_, Heap.get?_push_size _ rfl, rfl, _, rfl⟩ (y1.atoms ha))
noncomputable def CmR (c : Cx) (op : CmpOp) (r1 r2 : AV) (b : Bool) : Prop :=
  c.Ok → ∀ s v1 v2, c.Φ s → VR s.heap s.toks c.P r1 v1 → VR s.heap s.toks c.P r2 v2 → ∀ Q E, (∀ s', Ext c.G s s' → Q (.bool b) s') → wpAny c.M c.A (compareOp op v1 v2) Q E s
theorem EvE.cmp {c : Cx} {op l r pos r1 r2 b} (h1 : EvE c l r1) (h2 : EvE c r r2) (hop : CmR c op r1 r2 b) (hm : behindInMarks op r = false := by with_unfolding_all rfl) : EvE c (.Compare l [op] [r] pos) (.bool b) := fun o s hs Q E k =>
  wpAny_Compare1 (h1.two h2 o hs fun v1 v2 s' x hs' y1 y2 => hop o s' v1 v2 hs' y1 y2 _ _ fun s'' x' => k _ s'' (x.trans x') .bool) hm
theorem EvT.cmp {c : Cx} {op l r pos r1 r2 b} (h1 : EvE c l r1) (h2 : EvE c r r2) (hop : CmR c op r1 r2 b) (hm : behindInMarks op r = false := by with_unfolding_all rfl) : EvT c (.Compare l [op] [r] pos) b := fun o s Q E hs k => by
  refine wpAny_isTrue_Compare1 ?_ hm
  refine h1 o s hs _ _ fun v1 s1 x1 y1 => ?_
  refine h2 o s1 (o.stab _ _ hs x1) _ _ fun v2 s2 x2 y2 => ?_
  exact hop o s2 v1 v2 (o.stab _ _ hs (x1.trans x2)) (y1.ext o x2) y2 _ _ fun s'' x' => wpAny_truthy_bool (k s'' ((x1.trans x2).trans x'))
section
variable {c : Cx} {a b : Int}
theorem CmR.eqI : CmR c .Eq (.int a) (.int b) (a == b) := by intro o s v1 v2 hs y1 y2 Q E k; (first | ((first | replace y1 := VR.intI y1 | replace y1 := VR.strI y1); obtain ⟨_, rfl⟩ := y1) | ((first | replace y1 := VR.rawI y1 | replace y1 := VRs.nilI y1 | replace y1 := VR.boolI y1 | replace y1 := VR.noneI y1); subst y1) | cases y1); (first | ((first | replace y2 := VR.intI y2 | replace y2 := VR.strI y2); obtain ⟨_, rfl⟩ := y2) | ((first | replace y2 := VR.rawI y2 | replace y2 := VRs.nilI y2 | replace y2 := VR.boolI y2 | replace y2 := VR.noneI y2); subst y2) | cases y2); exact eq_int (k _ (.refl s))
theorem CmR.neI : CmR c .NotEq (.int a) (.int b) (a != b) := by intro o s v1 v2 hs y1 y2 Q E k; (first | ((first | replace y1 := VR.intI y1 | replace y1 := VR.strI y1); obtain ⟨_, rfl⟩ := y1) | ((first | replace y1 := VR.rawI y1 | replace y1 := VRs.nilI y1 | replace y1 := VR.boolI y1 | replace y1 := VR.noneI y1); subst y1) | cases y1); (first | ((first | replace y2 := VR.intI y2 | replace y2 := VR.strI y2); obtain ⟨_, rfl⟩ := y2) | ((first | replace y2 := VR.rawI y2 | replace y2 := VRs.nilI y2 | replace y2 := VR.boolI y2 | replace y2 := VR.noneI y2); subst y2) | cases y2); exact ne_int (k _ (.refl s))
theorem CmR.ltI : CmR c .Lt (.int a) (.int b) (decide (a < b)) := by intro o s v1 v2 hs y1 y2 Q E k; (first | ((first | replace y1 := VR.intI y1 | replace y1 := VR.strI y1); obtain ⟨_, rfl⟩ := y1) | ((first | replace y1 := VR.rawI y1 | replace y1 := VRs.nilI y1 | replace y1 := VR.boolI y1 | replace y1 := VR.noneI y1); subst y1) | cases y1); (first | ((first | replace y2 := VR.intI y2 | replace y2 := VR.strI y2); obtain ⟨_, rfl⟩ := y2) | ((first | replace y2 := VR.rawI y2 | replace y2 := VRs.nilI y2 | replace y2 := VR.boolI y2 | replace y2 := VR.noneI y2); subst y2) | cases y2); exact lt_int (k _ (.refl s))
theorem CmR.leI : CmR c .LtE (.int a) (.int b) (decide (a ≤ b)) := by intro o s v1 v2 hs y1 y2 Q E k; (first | ((first | replace y1 := VR.intI y1 | replace y1 := VR.strI y1); obtain ⟨_, rfl⟩ := y1) | ((first | replace y1 := VR.rawI y1 | replace y1 := VRs.nilI y1 | replace y1 := VR.boolI y1 | replace y1 := VR.noneI y1); subst y1) | cases y1); (first | ((first | replace y2 := VR.intI y2 | replace y2 := VR.strI y2); obtain ⟨_, rfl⟩ := y2) | ((first | replace y2 := VR.rawI y2 | replace y2 := VRs.nilI y2 | replace y2 := VR.boolI y2 | replace y2 := VR.noneI y2); subst y2) | cases y2); exact PyProof.Rows.le_int (k _ (.refl s))
theorem CmR.gtI : CmR c .Gt (.int a) (.int b) (decide (b < a)) := by intro o s v1 v2 hs y1 y2 Q E k; (first | ((first | replace y1 := VR.intI y1 | replace y1 := VR.strI y1); obtain ⟨_, rfl⟩ := y1) | ((first | replace y1 := VR.rawI y1 | replace y1 := VRs.nilI y1 | replace y1 := VR.boolI y1 | replace y1 := VR.noneI y1); subst y1) | cases y1); (first | ((first | replace y2 := VR.intI y2 | replace y2 := VR.strI y2); obtain ⟨_, rfl⟩ := y2) | ((first | replace y2 := VR.rawI y2 | replace y2 := VRs.nilI y2 | replace y2 := VR.boolI y2 | replace y2 := VR.noneI y2); subst y2) | cases y2); exact gt_int (k _ (.refl s))
theorem CmR.neB {a b : Bool} : CmR c .NotEq (.bool a) (.bool b) (a != b) := by intro o s v1 v2 hs y1 y2 Q E k; (first | ((first | replace y1 := VR.intI y1 | replace y1 := VR.strI y1); obtain ⟨_, rfl⟩ := y1) | ((first | replace y1 := VR.rawI y1 | replace y1 := VRs.nilI y1 | replace y1 := VR.boolI y1 | replace y1 := VR.noneI y1); subst y1) | cases y1); (first | ((first | replace y2 := VR.intI y2 | replace y2 := VR.strI y2); obtain ⟨_, rfl⟩ := y2) | ((first | replace y2 := VR.rawI y2 | replace y2 := VRs.nilI y2 | replace y2 := VR.boolI y2 | replace y2 := VR.noneI y2); subst y2) | cases y2); exact ne_bool (k _ (.refl s))
theorem CmR.eqB {a b : Bool} : CmR c .Eq (.bool a) (.bool b) (a == b) := by intro o s v1 v2 hs y1 y2 Q E k; (first | ((first | replace y1 := VR.intI y1 | replace y1 := VR.strI y1); obtain ⟨_, rfl⟩ := y1) | ((first | replace y1 := VR.rawI y1 | replace y1 := VRs.nilI y1 | replace y1 := VR.boolI y1 | replace y1 := VR.noneI y1); subst y1) | cases y1); (first | ((first | replace y2 := VR.intI y2 | replace y2 := VR.strI y2); obtain ⟨_, rfl⟩ := y2) | ((first | replace y2 := VR.rawI y2 | replace y2 := VRs.nilI y2 | replace y2 := VR.boolI y2 | replace y2 := VR.noneI y2); subst y2) | cases y2); exact eq_bool (k _ (.refl s))
theorem CmR.eqS {a b : Str} : CmR c .Eq (.str a) (.str b) (a == b) := by intro o s v1 v2 hs y1 y2 Q E k; (first | ((first | replace y1 := VR.intI y1 | replace y1 := VR.strI y1); obtain ⟨_, rfl⟩ := y1) | ((first | replace y1 := VR.rawI y1 | replace y1 := VRs.nilI y1 | replace y1 := VR.boolI y1 | replace y1 := VR.noneI y1); subst y1) | cases y1); (first | ((first | replace y2 := VR.intI y2 | replace y2 := VR.strI y2); obtain ⟨_, rfl⟩ := y2) | ((first | replace y2 := VR.rawI y2 | replace y2 := VRs.nilI y2 | replace y2 := VR.boolI y2 | replace y2 := VR.noneI y2); subst y2) | cases y2); exact eq_str (k _ (.refl s))
theorem CmR.inS {a b : Str} : CmR c .In (.str a) (.str b) (!(Builtin.Str.occurrences b a 0 b.length 1).isEmpty) := by intro o s v1 v2 hs y1 y2 Q E k; (first | ((first | replace y1 := VR.intI y1 | replace y1 := VR.strI y1); obtain ⟨_, rfl⟩ := y1) | ((first | replace y1 := VR.rawI y1 | replace y1 := VRs.nilI y1 | replace y1 := VR.boolI y1 | replace y1 := VR.noneI y1); subst y1) | cases y1); (first | ((first | replace y2 := VR.intI y2 | replace y2 := VR.strI y2); obtain ⟨_, rfl⟩ := y2) | ((first | replace y2 := VR.rawI y2 | replace y2 := VRs.nilI y2 | replace y2 := VR.boolI y2 | replace y2 := VR.noneI y2); subst y2) | cases y2); exact in_str (k _ (.refl s))
end
noncomputable def TrR (c : Cx) (r : AV) (b : Bool) : Prop := c.Ok → ∀ s v Q E, c.Φ s → VR s.heap s.toks c.P r v → (∀ s', Ext c.G s s' → Q b s') → wpAny c.M c.A (truthy v) Q E s
theorem TrR.int {c : Cx} {a} : TrR c (.int a) (a != 0) := by intro o s v Q E hs y k; (first | ((first | replace y := VR.intI y | replace y := VR.strI y); obtain ⟨_, rfl⟩ := y) | ((first | replace y := VR.rawI y | replace y := VRs.nilI y | replace y := VR.boolI y | replace y := VR.noneI y); subst y) | cases y); exact truthy_int (k _ (.refl s))
theorem TrR.bool {c : Cx} {a} : TrR c (.bool a) a := by intro o s v Q E hs y k; (first | ((first | replace y := VR.intI y | replace y := VR.strI y); obtain ⟨_, rfl⟩ := y) | ((first | replace y := VR.rawI y | replace y := VRs.nilI y | replace y := VR.boolI y | replace y := VR.noneI y); subst y) | cases y); exact wpAny_truthy_bool (k _ (.refl s))
theorem TrR.str {c : Cx} {a : Str} (hf : a.length < 1000000) : TrR c (.str a) ((a.length : Int) != 0) := by
  intro o s v Q E hs y k; (first | ((first | replace y := VR.intI y | replace y := VR.strI y); obtain ⟨_, rfl⟩ := y) | ((first | replace y := VR.rawI y | replace y := VRs.nilI y | replace y := VR.boolI y | replace y := VR.noneI y); subst y) | cases y); exact P.truthy_str (by omega) (k _ .tok)
theorem EvT.plain {c : Cx} {e r b} (h : EvE c e r) (t : TrR c r b) (he : ∀ whole, isTrue e c.env whole = (do let v ← whole; standAt e.pos; holding [v] (truthy v)) := by intro _; rfl) : EvT c e b := fun o s Q E hs k => by
  refine isTrue_plain ?_ (he _)
  exact h o s hs _ _ fun v s1 x1 y1 => t o s1 v _ _ (o.stab _ _ hs x1) y1 fun s2 x2 => k _ (x1.trans x2)
theorem EvT.not {c : Cx} {e pos b} (h : EvT c e b) : EvT c (.UnaryOp .Not e pos) (!b) := fun o s Q E hs k => isTrue_not (h o s _ _ hs k)
theorem EvT.and1 {c : Cx} {e pos b} (h : EvT c e b) : EvT c (.BoolOp .And [e] pos) b := fun o s Q E hs k => by
  refine isTrue_and (h o s _ _ hs fun s1 x1 => ?_)
  cases b with
  | false => exact k s1 x1
  | true => exact isTrue_and_nil (k s1 x1)
theorem EvT.and {c : Cx} {e rest pos b b'} (h : EvT c e b) (t : b = true → EvT c (.BoolOp .And rest pos) b') : EvT c (.BoolOp .And (e :: rest) pos) (b && b') := fun o s Q E hs k => by
  refine isTrue_and (h o s _ _ hs fun s1 x1 => ?_)
  cases b with
  | false => exact k s1 x1
  | true => exact isTrue_whole_ok (t rfl o s1 _ _ (o.stab _ _ hs x1) fun s2 x2 => k s2 (x1.trans x2))
where
  isTrue_whole_ok {c : Cx} {rest pos} {whole} {Q : Bool → Shared → Prop} {E s} (h : wpAny c.M c.A (isTrue (.BoolOp .And rest pos) c.env (eval (.BoolOp .And rest pos) c.env)) Q E s) : wpAny c.M c.A (isTrue (.BoolOp .And rest pos) c.env whole) Q E s := h
theorem EvT.or1 {c : Cx} {e pos b} (h : EvT c e b) : EvT c (.BoolOp .Or [e] pos) b := fun o s Q E hs k => by
  refine isTrue_or (h o s _ _ hs fun s1 x1 => ?_)
  cases b with
  | true => exact k s1 x1
  | false => exact isTrue_or_nil (k s1 x1)
theorem EvT.or {c : Cx} {e rest pos b b'} (h : EvT c e b) (t : b = false → EvT c (.BoolOp .Or rest pos) b') : EvT c (.BoolOp .Or (e :: rest) pos) (b || b') := fun o s Q E hs k => by
  refine isTrue_or (h o s _ _ hs fun s1 x1 => ?_)
  cases b with
  | true => exact k s1 x1
  | false => exact isTrue_whole_ok (t rfl o s1 _ _ (o.stab _ _ hs x1) fun s2 x2 => k s2 (x1.trans x2))
where
  isTrue_whole_ok {c : Cx} {rest pos} {whole} {Q : Bool → Shared → Prop} {E s} (h : wpAny c.M c.A (isTrue (.BoolOp .Or rest pos) c.env (eval (.BoolOp .Or rest pos) c.env)) Q E s) : wpAny c.M c.A (isTrue (.BoolOp .Or rest pos) c.env whole) Q E s := h
theorem EvT.chain {c : Cx} {l op₁ op₂ m r pos r1 r2 r3 b b'} (h1 : EvE c l r1) (h2 : EvE c m r2) (h3 : EvE c r r3) (c1 : CmR c op₁ r1 r2 b) (c2 : CmR c op₂ r2 r3 b')
    (hm : lastMarks [op₁, op₂] [m, r] = false := by with_unfolding_all rfl) : EvT c (.Compare l [op₁, op₂] [m, r] pos) (b && b') := fun o s Q E hs k => by
  refine isTrue_chain ?_ hm
  refine h1 o s hs _ _ fun v1 s1 x1 y1 => test_link ?_
  refine h2 o s1 (o.stab _ _ hs x1) _ _ fun v2 s2 x2 y2 => ?_
  refine c1 o s2 v1 v2 (o.stab _ _ hs (x1.trans x2)) (y1.ext o x2) y2 _ _ fun s3 x3 => wpAny_truthy_bool ?_
  cases b with
  | false => exact k _ ((x1.trans x2).trans x3)
  | true =>
    refine test_last ?_
    have hs3 := o.stab _ _ hs ((x1.trans x2).trans x3)
    refine h3 o s3 hs3 _ _ fun v3 s4 x4 y4 => ?_
    exact c2 o s4 v2 v3 (o.stab _ _ hs3 x4) (y2.ext o (x3.trans x4)) y4 _ _ fun s5 x5 => wpAny_truthy_bool (k _ (((((x1.trans x2).trans x3)).trans x4).trans x5))
theorem EvE.ifexp {c : Cx} {t a b pos x r1 r2} (h : EvT c t x) (h1 : x = true → EvE c a r1) (h2 : x = false → EvE c b r2) : EvE c (.IfExp t a b pos) (if x then r1 else r2) := fun o s hs Q E k => by
  refine IfExp_ (h o s _ _ hs fun s1 x1 => ?_)
  cases x with
  | true => exact h1 rfl o s1 (o.stab _ _ hs x1) _ _ fun v s2 x2 y2 => k v s2 (x1.trans x2) y2
  | false => exact h2 rfl o s1 (o.stab _ _ hs x1) _ _ fun v s2 x2 y2 => k v s2 (x1.trans x2) y2
theorem EvE.sub {c : Cx} {value slice pos r1 r2 res} (h1 : EvE c value r1) (h2 : EvE c slice r2) (hop : OpR c (subscriptTail value slice) r1 r2 res) : EvE c (.Subscript value slice pos) res := fun o s hs Q E k =>
  Subscript_ (h1.two h2 o hs fun v1 v2 s' x hs' y1 y2 => hop o s' v1 v2 hs' y1 y2 _ _ fun v s'' x' y => k v s'' (x.trans x') y)
noncomputable def noSlice : Expr → Bool
  | .Slice .. => false
  | _ => true
theorem subscripted_plain {slice : Expr} (h : noSlice slice = true) (o i : Value) : subscripted slice false o i = operate [o, i] (getItem o i) := by
  cases slice <;> first | rfl | exact Bool.noConfusion h
theorem OpR.itemL {c : Cx} {value slice : Expr} {xs : List AV} {k : Int} {r : AV} (h0 : 0 ≤ k) (hk : k < 2 ^ 63) (hx : xs[k.toNat]? = some r) (hs : noSlice slice = true := by rfl) : OpR c (subscriptTail value slice) (.list xs) (.int k) r := by
  intro o s v1 v2 hs' y1 y2 Q E kk
  (first | ((first | replace y2 := VR.intI y2 | replace y2 := VR.strI y2); obtain ⟨_, rfl⟩ := y2) | ((first | replace y2 := VR.rawI y2 | replace y2 := VRs.nilI y2 | replace y2 := VR.boolI y2 | replace y2 := VR.noneI y2); subst y2) | cases y2)
  cases y1 with
  | list pa hl hv =>
    obtain ⟨v, e, y⟩ := hv.get _ hx
    exact tail_any hl.typeIs slot_list_getitem.lookup (wpAny_getItem_list hl h0 hk (by simpa using e) (kk _ _ (.refl s) y)) (subscripted_plain hs _ _)
theorem OpR.itemLneg {c : Cx} {value slice : Expr} {xs : List AV} {k : Int} {r : AV} (h0 : k < 0) (h1 : -(xs.length : Int) ≤ k) (hk : -(2 ^ 63) ≤ k) (hx : xs[(k + xs.length).toNat]? = some r) (hs : noSlice slice = true := by rfl) : OpR c (subscriptTail value slice) (.list xs) (.int k) r := by
  intro o s v1 v2 hs' y1 y2 Q E kk
  (first | ((first | replace y2 := VR.intI y2 | replace y2 := VR.strI y2); obtain ⟨_, rfl⟩ := y2) | ((first | replace y2 := VR.rawI y2 | replace y2 := VRs.nilI y2 | replace y2 := VR.boolI y2 | replace y2 := VR.noneI y2); subst y2) | cases y2)
  cases y1 with
  | list pa hl hv =>
    obtain ⟨v, e, y⟩ := hv.get _ hx
    have hlen := hv.length
    exact tail_any hl.typeIs slot_list_getitem.lookup (wpAny_getItem_list_neg hl h0 (by simpa [← hlen] using h1) hk (by simpa [← hlen] using e) (kk _ _ (.refl s) y)) (subscripted_plain hs _ _)
theorem OpR.itemT {c : Cx} {value slice : Expr} {xs : List AV} {k : Int} {r : AV} (h0 : 0 ≤ k) (hk : k < 2 ^ 63) (hx : xs[k.toNat]? = some r) (hs : noSlice slice = true := by rfl) : OpR c (subscriptTail value slice) (.tup xs) (.int k) r := by
  intro o s v1 v2 hs' y1 y2 Q E kk
  (first | ((first | replace y2 := VR.intI y2 | replace y2 := VR.strI y2); obtain ⟨_, rfl⟩ := y2) | ((first | replace y2 := VR.rawI y2 | replace y2 := VRs.nilI y2 | replace y2 := VR.boolI y2 | replace y2 := VR.noneI y2); subst y2) | cases y2)
  replace y1 := VR.tupI y1
  obtain ⟨_, vs, rfl, pa, hl, hv⟩ := y1
  ·
    obtain ⟨v, e, y⟩ := hv.get _ hx
    have hl' : IsTup s.heap _ _ := hl
    have hlt : k.toNat < vs.length := (List.getElem?_eq_some_iff.mp e).1
    refine tail_any hl'.typeIs slot_tuple_getitem.lookup (getItem_tuple hl' (by omega) hk (j := k.toNat) ?_ (by simpa using e) (kk _ _ (.refl s) y)) (subscripted_plain hs _ _)
    unfold seqIndex?
    have : ¬ k < 0 := by omega
    simp only [this, if_false]
    rw [if_pos (by simp; omega)]
theorem OpR.itemS {c : Cx} {value slice : Expr} {x : Str} {k : Int} {n : Nat} (h0 : 0 ≤ k) (hk : k < 2 ^ 62) (hx : x.cps[k.toNat]? = some n) (hs : noSlice slice = true := by rfl) : OpR c (subscriptTail value slice) (.str x) (.int k) (.str ⟨#[n]⟩) := by
  intro o s v1 v2 hs' y1 y2 Q E kk
  (first | ((first | replace y2 := VR.intI y2 | replace y2 := VR.strI y2); obtain ⟨_, rfl⟩ := y2) | ((first | replace y2 := VR.rawI y2 | replace y2 := VRs.nilI y2 | replace y2 := VR.boolI y2 | replace y2 := VR.noneI y2); subst y2) | cases y2)
  (first | ((first | replace y1 := VR.intI y1 | replace y1 := VR.strI y1); obtain ⟨_, rfl⟩ := y1) | ((first | replace y1 := VR.rawI y1 | replace y1 := VRs.nilI y1 | replace y1 := VR.boolI y1 | replace y1 := VR.noneI y1); subst y1) | cases y1)
  have hlt : k.toNat < x.cps.size := (Array.getElem?_eq_some_iff.mp hx).1
  refine tail_any (typeIs_str s x _) slot_str_getitem.lookup (PyProof.Rows.getItem_str ?_ (c := n) ?_ (kk _ _ .tok .str)) (subscripted_plain hs _ _)
  · have h1 : ¬ k < -(2 ^ 63 : Int) := by omega
    have h2 : ¬ k ≥ 2 ^ 63 := by omega
    rw [decide_eq_false h1, decide_eq_false h2]; rfl
  · unfold seqIndex?
    have : ¬ k < 0 := by omega
    simp only [this, if_false]
    have hlt2 : k < (x.length : Int) := by simp only [Str.length]; omega
    rw [if_pos (by rw [decide_eq_true h0, decide_eq_true hlt2]; rfl)]
    exact hx
theorem backTo_any {pos : Pos} {l : List (Bool × Sem Value)} : (backTo pos l).any (·.1) = l.any (·.1) := by
  unfold backTo
  rw [List.any_map]
  rfl
theorem evalArgs_plainL {M : Model} {A : Around} {E s} {f : Value} {l : List (Bool × Sem Value)} {Q : Args → Shared → Prop} (hp : l.any (·.1) = false)
    (h : wpAny M A (spliced l) (fun vs s' => Q ⟨vs, []⟩ s') E s) : wpAny M A (evalArgs f true l []) Q E s := by
  cases l with
  | nil =>
    unfold evalArgs
    show wpAny M A (spliced [] >>= _) Q E s
    refine wpAny_bind (wpAny_mono h (fun vs s' h' => ?_) fun _ _ x => x)
    refine wpAny_holding ?_
    exact wpAny_bind (wpAny_pure (wpAny_bind (wpAny_pure (wpAny_pure h'))))
  | cons x r =>
    obtain ⟨b, t⟩ := x
    cases b with
    | true => simp at hp
    | false => exact Calls.evalArgs_plain h
noncomputable def Callee (c : Cx) (f : Value) : Prop := ∀ s, c.Φ s → (∀ a, f ≠ .ref a) ∨ ∃ a o fd, f = .ref a ∧ s.heap.get? a = some o ∧ a ∉ Tb ∧ o.data = .func fd
theorem Callee.builtin {c : Cx} {id : String} : Callee c (.builtin id) := fun _ _ => .inl fun a e => by cases e
theorem Callee.type {c : Cx} {id : String} : Callee c (.type id) := fun _ _ => .inl fun a e => by cases e
theorem callW {c : Cx} (o : c.Ok) {f : Value} {first : List Value} {es : List Expr} {rs : List AV} {pos : Pos} {s : Shared} {Q : Value → Shared → Prop} {E : Value → Shared → Prop} (hs : c.Φ s) (hc : Callee c f) (ha : EvA c es rs)
    (k : ∀ vs s', Ext c.G s s' → VRs s'.heap s'.toks c.P rs vs → wpAny c.M c.A (call f (first ++ vs) []) Q E s') :
    wpAny c.M c.A (callWith pos f first (backTo pos (starEach es c.env)) []) Q E s := by
  have hp : (backTo pos (starEach es c.env)).any (·.1) = false := backTo_any.trans ha.plain
  rcases hc s hs with hn | ⟨a, ob, fd, rfl, ho, ht, hd⟩
  · unfold callWith
    refine wpAny_bind (wpAny_holding (evalArgs_plainL hp (ha.ev o pos s _ _ hs fun vs s1 x1 y1 => wpAny_bind (wpAny_standAt ?_))))
    simp only [hp, List.any_nil, Bool.or_false]
    have kk : keeperOf f = pure .machine := by
      unfold keeperOf
      split
      · rename_i a; exact absurd rfl (hn a)
      · rfl
    rw [kk]
    refine wpAny_bind (wpAny_pure ?_)
    exact wpAny_bind (wpAny_mono (k vs s1 x1 y1) (fun r s₂ hr => wpAny_bind (wpAny_holding (wpAny_point (wpAny_pure hr)))) fun _ _ x => x)
  · refine Calls.callWith_function (o := ob) (fd := fd) (evalArgs_plainL hp (ha.ev o pos s _ _ hs fun vs s1 x1 y1 => ⟨⟨x1.keep _ _ ht ho, hd⟩, k vs s1 x1 y1⟩))
noncomputable def CaR (c : Cx) (f : Value) (rs : List AV) (res : AV) : Prop := c.Ok → ∀ s vs, c.Φ s → VRs s.heap s.toks c.P rs vs → TreeR c (call f vs []) s res
theorem EvE.call {c : Cx} {x : Str} {p pos : Pos} {es : List Expr} {f : Value} {rs : List AV} {res : AV} (hf : EvE c (.Name x p) (.raw f)) (hc : Callee c f) (ha : EvA c es rs) (h : CaR c f rs res) :
    EvE c (.Call (.Name x p) es [] pos) res := fun o s hs Q E k => by
  rw [arm_eval_Call_Name']
  refine wpAny_bind (hf o s hs _ _ fun v s1 x1 y1 => ?_)
  (first | ((first | replace y1 := VR.intI y1 | replace y1 := VR.strI y1); obtain ⟨_, rfl⟩ := y1) | ((first | replace y1 := VR.rawI y1 | replace y1 := VRs.nilI y1 | replace y1 := VR.boolI y1 | replace y1 := VR.noneI y1); subst y1) | cases y1)
  have hs1 := o.stab _ _ hs x1
  refine callW o hs1 hc ha fun vs s2 x2 y2 => ?_
  exact h o s2 vs (o.stab _ _ hs1 x2) y2 _ _ fun v s3 x3 y3 => k v s3 ((x1.trans x2).trans x3) y3
theorem VR.lt {h : Heap} {τ : Nat} {P P' : Addr → Prop} {x v} (r : VR h τ P x v) (hp : ∀ a o, P a → h.get? a = some o → P' a) : VR h τ P' x v := r.mv (fun a o p e => ⟨e, hp a o p e⟩) (Nat.le_refl _)
theorem VRs.lt {h : Heap} {τ : Nat} {P P' : Addr → Prop} {xs vs} (r : VRs h τ P xs vs) (hp : ∀ a o, P a → h.get? a = some o → P' a) : VRs h τ P' xs vs := r.mv (fun a o p e => ⟨e, hp a o p e⟩) (Nat.le_refl _)
structure Vars (env : Env) (own : List (Str × Addr)) (σ : List (Str × AV)) (P : Addr → Prop) (h : Heap) (τ : Nat) : Prop where
  loc : ∃ m, h.Ns env.locals m ∧ ∀ x r, σ.lookup x = some r → env.kindOf x = some .local → ∃ v, m x = some v ∧ VR h τ P r v
  cel : ∀ x a, own.lookup x = some a → ∃ ov, h.IsCell a ov ∧ ∀ r, σ.lookup x = some r → ∃ v, ov = some v ∧ VR h τ P r v
structure FOk (env : Env) (own : List (Str × Addr)) (P : Addr → Prop) : Prop where
  kind : env.scope.kind = .function
  cells : ∀ x a, own.lookup x = some a → env.cells.lookup x = some a
  lk : ∀ p ∈ own, own.lookup p.1 = some p.2
  ck : ∀ x a, own.lookup x = some a → env.kindOf x = some .cell
  nd : own.Pairwise fun x y => x.2 ≠ y.2
  nl : ∀ p ∈ own, p.2 ≠ env.locals
  off : ∀ b ∈ env.locals :: own.map (·.2), ¬ P b ∧ b ∉ Tb
noncomputable def FAd (env : Env) (own : List (Str × Addr)) : List Addr := env.locals :: own.map (·.2)
theorem Vars.keep {env : Env} {own : List (Str × Addr)} {σ : List (Str × AV)} {P : Addr → Prop} {h h' : Heap} {τ τ' : Nat} (V : Vars env own σ P h τ) (hk : ∀ b o, P b ∨ b ∈ FAd env own → h.get? b = some o → h'.get? b = some o) (ht : τ ≤ τ' := by exact Nat.le_refl _) : Vars env own σ P h' τ' := by
  obtain ⟨⟨m, hn, hm⟩, hc⟩ := V
  refine ⟨⟨m, hn.at' fun o e => hk _ o (.inr (.head _)) e, fun x r e k => ?_⟩, fun x a e => ?_⟩
  · obtain ⟨v, h1, h2⟩ := hm x r e k
    exact ⟨v, h1, h2.mono (fun b o pb e => hk b o (.inl pb) e) (fun _ p => p) ht⟩
  · obtain ⟨ov, ⟨o, ho, hd⟩, h2⟩ := hc x a e
    refine ⟨ov, ⟨o, hk a o (.inr (.tail _ (List.mem_map.mpr ⟨(x, a), mem_of_lookup e, rfl⟩))) ho, hd⟩, fun r er => ?_⟩
    obtain ⟨v, h3, h4⟩ := h2 r er
    exact ⟨v, h3, h4.mono (fun b o pb e => hk b o (.inl pb) e) (fun _ p => p) ht⟩
theorem Vars.ext {G : G0} {env : Env} {own : List (Str × Addr)} {σ : List (Str × AV)} {P : Addr → Prop} {s s' : Shared} (V : Vars env own σ P s.heap s.toks) (F : FOk env own P) (hp : ∀ a, P a → a ∉ Tb) (x : Ext G s s') : Vars env own σ P s'.heap s'.toks :=
  V.keep (fun b o hb e => x.keep b o (hb.elim (hp b) fun hb => (F.off b hb).2) e) x.le
noncomputable def Kd (env : Env) (own : List (Str × Addr)) (x : Str) : Prop := env.kindOf x = some .local ∨ (env.kindOf x = some .cell ∧ ∃ a, own.lookup x = some a)
theorem Vars.store {M : Model} {A : Around} {env : Env} {own : List (Str × Addr)} {σ : List (Str × AV)} {P : Addr → Prop} {s : Shared} (V : Vars env own σ P s.heap s.toks) (F : FOk env own P) {x : Str} {r : AV} {v : Value}
    (hx : Kd env own x) (hv : VR s.heap s.toks P r v) {Q : Unit → Shared → Prop} {E : Value → Shared → Prop}
    (k : ∀ s', Vars env own ((x, r) :: σ) P s'.heap s'.toks → Kp (FAd env own) s s' → Q () s') :
    wpAny M A (storeName env x v) Q E s := by
  have k' : ∀ h' tk', s.toks ≤ tk' → Vars env own ((x, r) :: σ) P h' tk' → (∀ b o, b ∉ FAd env own → s.heap.get? b = some o → h'.get? b = some o) → Q () { s with heap := h', toks := tk' } := fun h' tk' ht V' hk => by
    refine k _ V' ⟨⟨_, _, rfl⟩, hk, fun b o e => ?_, ht⟩
    by_cases hb : b ∈ FAd env own
    · rcases List.mem_cons.mp hb with rfl | hb
      · obtain ⟨_, ⟨ob, _, _, eb, _⟩, _⟩ := V'.loc
        exact ⟨ob, eb⟩
      · obtain ⟨⟨y, b'⟩, hm, rfl⟩ := List.mem_map.mp hb
        obtain ⟨ov, ⟨ob, eb, _⟩, _⟩ := V'.cel y b' (F.lk _ hm)
        exact ⟨ob, eb⟩
    · exact ⟨o, hk b o hb e⟩
  obtain ⟨⟨m, hn, hm⟩, hc⟩ := V
  have hPL : ¬ P env.locals := (F.off _ (.head _)).1
  have hPc : ∀ y a, own.lookup y = some a → ¬ P a := fun y a e => (F.off a (.tail _ (List.mem_map.mpr ⟨(y, a), mem_of_lookup e, rfl⟩))).1
  have hLc : ∀ y a, own.lookup y = some a → a ≠ env.locals := fun y a e => F.nl _ (mem_of_lookup e)
  have look : ∀ y r', ((x, r) :: σ).lookup y = some r' → (y = x ∧ r' = r) ∨ (y ≠ x ∧ σ.lookup y = some r') := fun y r' e => by
    rw [List.lookup_cons] at e
    cases hb : y == x with
    | true => rw [hb] at e; exact .inl ⟨beq_iff_eq.mp hb, (Option.some.inj e).symm⟩
    | false => rw [hb] at e; exact .inr ⟨beq_eq_false_iff_ne.mp hb, e⟩
  rcases hx with hl | ⟨hl, a, ha⟩
  · refine wpAny_storeName_local hl hn (fun h' hn' hs' => k' h' (s.toks + 1) (Nat.le_succ _) ⟨⟨_, hn', fun y r' e hy => ?_⟩, fun y b e => ?_⟩ (fun b o hb e => hs'.extBut b o (fun q => hb (q ▸ .head _)) e)) (by rw [F.kind]; rfl)
    · have up : ∀ b o, P b → s.heap.get? b = some o → h'.get? b = some o := fun b o pb e => hs'.extBut b o (fun q => hPL (q ▸ pb)) e
      rcases look y r' e with ⟨rfl, rfl⟩ | ⟨hne, e'⟩
      · exact ⟨v, by simp, hv.mono up (fun _ p => p) (Nat.le_succ _)⟩
      · obtain ⟨v', h1, h2⟩ := hm y r' e' hy
        exact ⟨v', by simp [hne, h1], h2.mono up (fun _ p => p) (Nat.le_succ _)⟩
    · have up : ∀ b o, P b → s.heap.get? b = some o → h'.get? b = some o := fun b o pb e => hs'.extBut b o (fun q => hPL (q ▸ pb)) e
      obtain ⟨ov, hcell, h2⟩ := hc y b e
      refine ⟨ov, hcell.sameBut hs' (hLc y b e), fun r' er => ?_⟩
      rcases look y r' er with ⟨rfl, rfl⟩ | ⟨hne, e'⟩
      · have := F.ck _ _ e
        rw [hl] at this; cases this
      · obtain ⟨v', h3, h4⟩ := h2 r' e'
        exact ⟨v', h3, h4.mono up (fun _ p => p) (Nat.le_succ _)⟩
  · obtain ⟨ov, hcell, _⟩ := hc x a ha
    refine wpAny_storeName_cell F.kind hl (F.cells _ _ ha) hcell fun h' hc' hs' => ?_
    have up : ∀ b o, P b → s.heap.get? b = some o → h'.get? b = some o := fun b o pb e => hs'.extBut b o (fun q => hPc x a ha (q ▸ pb)) e
    refine k' h' s.toks (Nat.le_refl _) ⟨⟨m, hn.sameBut hs' (Ne.symm (hLc x a ha)), fun y r' e hy => ?_⟩, fun y b e => ?_⟩ (fun b o hb e => hs'.extBut b o (fun q => hb (q ▸ .tail _ (List.mem_map.mpr ⟨(x, a), mem_of_lookup ha, rfl⟩))) e)
    · rcases look y r' e with ⟨rfl, rfl⟩ | ⟨hne, e'⟩
      · rw [hl] at hy; cases hy
      · obtain ⟨v', h1, h2⟩ := hm y r' e' hy
        exact ⟨v', h1, h2.mono up fun _ p => p⟩
    · by_cases hyx : y = x
      · subst hyx
        rw [ha] at e
        cases e
        exact ⟨some v, hc', fun r' er => by
          rcases look y r' er with ⟨_, rfl⟩ | ⟨hne, _⟩
          · exact ⟨v, rfl, hv.mono up fun _ p => p⟩
          · exact absurd rfl hne⟩
      · have hba : b ≠ a := fun q => hyx (name_of_addr F.nd (mem_of_lookup e) (q ▸ mem_of_lookup ha))
        obtain ⟨ov', hcell', h2⟩ := hc y b e
        refine ⟨ov', hcell'.sameBut hs' hba, fun r' er => ?_⟩
        rcases look y r' er with ⟨rfl, _⟩ | ⟨_, e'⟩
        · exact absurd rfl hyx
        · obtain ⟨v', h3, h4⟩ := h2 r' e'
          exact ⟨v', h3, h4.mono up fun _ p => p⟩
noncomputable def AsR (env : Env) (own : List (Str × Addr)) (P : Addr → Prop) (t : Expr) (r : AV) (bs : List (Str × AV)) : Prop :=
  ∀ (prog : Program) (w : World) (A : Around) (s : Shared) (σ : List (Str × AV)) (v : Value) (Q : Unit → Shared → Prop) (E : Value → Shared → Prop), A.handled = none → Vars env own σ P s.heap s.toks → VR s.heap s.toks P r v →
    (∀ s', Vars env own (bs ++ σ) P s'.heap s'.toks → Kp (FAd env own) s s' → Q () s') → wpAny (model prog w) A (assign t env v) Q E s
noncomputable def AsRs (env : Env) (own : List (Str × Addr)) (P : Addr → Prop) (ts : List Expr) (rs : List AV) (bs : List (Str × AV)) : Prop :=
  (assignEach ts env).findIdx? (·.1) = none ∧ (assignEach ts env).length = rs.length ∧
  ∀ (prog : Program) (w : World) (A : Around) (s : Shared) (σ : List (Str × AV)) (vs : List Value) (Q : Unit → Shared → Prop) (E : Value → Shared → Prop), A.handled = none → Vars env own σ P s.heap s.toks → VRs s.heap s.toks P rs vs →
    (∀ s', Vars env own (bs ++ σ) P s'.heap s'.toks → Kp (FAd env own) s s' → Q () s') → wpAny (model prog w) A (assignInOrder ((assignEach ts env).map (·.2)) vs) Q E s
section
variable {env : Env} {own : List (Str × Addr)} {P : Addr → Prop}
theorem VR.kp (F : FOk env own P) {s s' : Shared} {r v} (x : Kp (FAd env own) s s') (y : VR s.heap s.toks P r v) : VR s'.heap s'.toks P r v :=
  y.mono (fun b o pb e => x.keep b o (fun q => (F.off b q).1 pb) e) (fun _ p => p) x.le
theorem VRs.kp (F : FOk env own P) {s s' : Shared} {r v} (x : Kp (FAd env own) s s') (y : VRs s.heap s.toks P r v) : VRs s'.heap s'.toks P r v :=
  y.mono (fun b o pb e => x.keep b o (fun q => (F.off b q).1 pb) e) (fun _ p => p) x.le
theorem AsR.name (F : FOk env own P) {x : Str} {p : Pos} {r : AV} (hx : Kd env own x) : AsR env own P (.Name x p) r [(x, r)] := fun prog w A s σ v Q E hh V y k =>
  wpAny_assign_Name (V.store F hx y fun s' V' x' => k s' V' x')
theorem AsRs.nil : AsRs env own P [] [] [] := ⟨rfl, rfl, fun prog w A s σ vs Q E hh V y k => by
  (first | ((first | replace y := VR.intI y | replace y := VR.strI y); obtain ⟨_, rfl⟩ := y) | ((first | replace y := VR.rawI y | replace y := VRs.nilI y | replace y := VR.boolI y | replace y := VR.noneI y); subst y) | cases y)
  exact assignInOrder_nil (k s V (.refl s))⟩
theorem AsRs.cons (F : FOk env own P) {t ts r rs b bs} (h : AsR env own P t r b) (hs : AsRs env own P ts rs bs) (he : assignEach (t :: ts) env = (false, assign t env) :: assignEach ts env := by rfl) : AsRs env own P (t :: ts) (r :: rs) (bs ++ b) := by
  refine ⟨?_, ?_, fun prog w A s σ vs Q E hh V y k => ?_⟩
  · rw [he, List.findIdx?_cons, hs.1]; rfl
  · rw [he, List.length_cons, hs.2.1]; rfl
  · rw [he]
    replace y := VRs.consI y
    obtain ⟨_, _, rfl, y1, y2⟩ := y
    ·
      refine assignInOrder_cons (h prog w A s σ _ _ _ hh V y1 fun s1 V1 x1 => ?_)
      refine hs.2.2 prog w A s1 _ _ _ _ hh V1 (y2.kp F x1) fun s2 V2 x2 => ?_
      exact k s2 (by rw [List.append_assoc]; exact V2) (x1.trans x2)
theorem kp_new (F : FOk env own P) {s : Shared} {h : Heap} (x : Heap.ExtBut s.heap.objs.size s.heap h) : Kp (FAd env own) s { s with heap := h } :=
  Kp.of (tk := s.toks) fun a o e => x a o (Nat.ne_of_lt (Heap.lt_size e)) e
theorem AsRs.at (F : FOk env own P) {prog : Program} {w : World} {A : Around} {s : Shared} {ts rs bs σ x1 pos} {t : Addr} {vs : List Value} {Q : Unit → Shared → Prop} {E : Value → Shared → Prop} (h : AsRs env own P ts rs bs) (hh : A.handled = none)
    (V : Vars env own σ P s.heap s.toks) (ht : s.heap.IsTuple t vs.toArray) (hs : VRs s.heap s.toks P rs vs) (k : ∀ s', Vars env own (bs ++ σ) P s'.heap s'.toks → Kp (FAd env own) s s' → Q () s') : wpAny (model prog w) A (assign (.Tuple ts x1 pos) env (.ref t)) Q E s := by
  refine wpAny_assign_Tuple hh ht (by rw [h.2.1, hs.length, List.size_toArray]) h.1 fun h' x => ?_
  have x1 := kp_new F x
  have up : ∀ b o, s.heap.get? b = some o → h'.get? b = some o := fun a o e => x a o (Nat.ne_of_lt (Heap.lt_size e)) e
  refine h.2.2 prog w A _ σ _ _ _ hh (V.keep fun b o _ e => up b o e) (by simpa using hs.mono (fun b o _ e => up b o e) fun _ p => p) fun s' V' x' => k s' V' (x1.trans x')
theorem AsR.tuple (F : FOk env own P) {ts rs bs x1 pos} (h : AsRs env own P ts rs bs) : AsR env own P (.Tuple ts x1 pos) (.tup rs) bs := fun prog w A s σ v Q E hh V y k => by
  cases y with
  | tup pa ht hs => exact h.at F hh V ht hs k
end
structure Turns (prog : Program) (w : World) (A : Around) (env : Env) (own : List (Str × Addr)) (P : Addr → Prop) (target : Expr) (I : Addr) (fp wr : List Addr) (n : Nat) (St : Nat → Heap → Prop) (D : Heap → Nat → Prop) (bs : Nat → List (Str × AV)) : Prop where
  sub : ∀ b ∈ wr, b ∈ fp
  live : ∀ i h, St i h → ∀ b ∈ wr, ∃ o, h.get? b = some o
  frame : ∀ i h h', St i h → (∀ b ∈ fp, ∀ o, h.get? b = some o → h'.get? b = some o) → St i h'
  dk : ∀ h h' τ τ', D h τ → (∀ b o, P b → h.get? b = some o → h'.get? b = some o) → τ ≤ τ' → D h' τ'
  item : ∀ i s σ (Q : Unit → Shared → Prop) (Q0 : Shared → Prop) (E : Value → Shared → Prop), i < n → St i s.heap → D s.heap s.toks → Vars env own σ P s.heap s.toks →
    (∀ s', St (i + 1) s'.heap → Vars env own (bs i ++ σ) P s'.heap s'.toks → Kp (wr ++ FAd env own) s s' → Q () s') →
    wpAny (model prog w) A (pyNext (.ref I)) (fun r s₁ => match r with
      | none => Q0 s₁
      | some v => wpAny (model prog w) A (letOwnedTupleGo target (.ref I) v) (fun _ s₁' => wpAny (model prog w) A (assign target env v) Q E s₁') E s₁) E s
  done : ∀ s (Q : Option Value → Shared → Prop) (E : Value → Shared → Prop), St n s.heap → (∀ h' tk, s.toks ≤ tk → (∀ b o, b ∉ wr → s.heap.get? b = some o → h'.get? b = some o) → Q none { s with heap := h', toks := tk }) → wpAny (model prog w) A (pyNext (.ref I)) Q E s
  self : ∀ i s (Q : Value → Shared → Prop) (E : Value → Shared → Prop), St i s.heap → Q (.ref I) s → wpAny (model prog w) A (pyIter (.ref I)) Q E s
theorem kp_wr {wr : List Addr} {s : Shared} {h : Heap} {tk : Nat} (k : ∀ b o, b ∉ wr → s.heap.get? b = some o → h.get? b = some o) (l : ∀ b ∈ wr, ∃ o, h.get? b = some o) (le : s.toks ≤ tk) : Kp wr s { s with heap := h, toks := tk } :=
  ⟨⟨h, tk, rfl⟩, k, fun a o e => if ha : a ∈ wr then l a ha else ⟨o, k a o ha e⟩, le⟩
theorem Turns.name {prog : Program} {w : World} {A : Around} {env : Env} {own : List (Str × Addr)} {P : Addr → Prop} (F : FOk env own P) {I : Addr} {fp wr : List Addr} {n : Nat} {Pv : Nat → Value → Prop} {St : Nat → Heap → Prop}
    (W : Walks prog w A I fp wr n Pv St) {x : Str} {px : Pos} (hx : Kd env own x) (hh : A.handled = none) (f : Nat → AV) (hl : ∀ i h, St i h → ∀ b ∈ wr, ∃ o, h.get? b = some o)
    (hwP : ∀ b ∈ wr, ¬ P b) (hwF : ∀ b ∈ wr, b ∉ FAd env own) (hfF : ∀ b ∈ fp, b ∉ FAd env own) :
    Turns prog w A env own P (.Name x px) I fp wr n St (fun h τ => ∀ i v, i < n → Pv i v → VR h τ P (f i) v) (fun i => [(x, f i)]) where
  sub := W.sub
  live := hl
  frame := W.frame
  dk := fun h h' τ τ' d k ht i v hi hv => (d i v hi hv).mono (fun b o p e => k b o p e) (fun _ p => p) ht
  item := fun i s σ Q Q0 E hi st d V k => by
    refine wpAny_with_toks (Nat.le_refl s.toks) (W.item i s _ _ hi st fun v h' tk hv st' hk => fun hle => ?_)
    refine wpAny_mono (?_ : wpAny _ A _ _ E _) (fun _ _ h => h) fun _ _ h => h
    have x1 : Kp wr s { s with heap := h', toks := tk } := kp_wr hk (hl _ _ st') hle
    have V' : Vars env own σ P h' tk := V.keep (fun b o hb e => hk b o (fun q => hb.elim (hwP b q) (hwF b q)) e) hle
    have y' : VR h' tk P (f i) v := (d i v hi hv).mono (fun b o pb e => hk b o (fun q => hwP b q pb) e) (fun _ p => p) hle
    refine wpAny_of_eq (a := ()) rfl ?_
    refine AsR.name F hx prog w A _ σ v _ _ hh V' y' fun s'' V'' x'' => ?_
    refine k s'' (W.frame _ _ _ st' fun b hb o e => x''.keep b o (hfF b hb) e) V'' ((x1.mono fun _ h => List.mem_append_left _ h).trans (x''.mono fun _ h => List.mem_append_right _ h))
  done := fun s Q E st k => wpAny_with_toks (Nat.le_refl s.toks) (W.done s _ _ st fun h' tk hk => fun hle => k h' tk hle hk)
  self := W.self
theorem Turns.enum {prog : Program} {w : World} {A : Around} {env : Env} {own : List (Str × Addr)} {P : Addr → Prop} (F : FOk env own P) {I it : Addr} {fp : List Addr} {n : Nat} {Pt : Nat → Array Value → Prop} {St : Nat → Heap → Prop} {Mid : Nat → Addr → Heap → Prop}
    (W : WalksT prog w A I fp [I, it] n Pt St Mid) {ts : List Expr} {k1 : Nat} {pos : Pos} (hh : A.handled = none) (f : Nat → AV) (bs : Nat → List (Str × AV)) (hl : ∀ i h, St i h → ∀ b ∈ [I, it], ∃ o, h.get? b = some o)
    (hb : ∀ i, i < n → AsRs env own P ts [.int (i : Int), f i] (bs i))
    (hP : ∀ i vals, Pt i vals → ∃ t x, vals = #[.int (i : Int) t, x])
    (hwP : ∀ b ∈ [I, it], ¬ P b) (hfF : ∀ b ∈ fp, b ∉ FAd env own) :
    Turns prog w A env own P (.Tuple ts k1 pos) I fp [I, it] n St (fun h τ => ∀ i t x, i < n → Pt i #[.int (i : Int) t, x] → VR h τ P (f i) x) bs where
  sub := W.sub
  live := hl
  frame := W.frame
  dk := fun h h' τ τ' d k ht i t v hi hv => (d i t v hi hv).mono (fun b o p e => k b o p e) (fun _ p => p) ht
  item := fun i s σ Q Q0 E hi st d V k => by
    have hwF : ∀ b ∈ [I, it], b ∉ FAd env own := fun b hb' => hfF b (W.sub b hb')
    refine wpAny_with_toks (Nat.le_refl s.toks) (W.item i s _ _ hi st fun T vals h' tk hv hT0 hT hM hk => fun hle => ?_)
    refine wpAny_mono (?_ : wpAny _ A _ _ E _) (fun _ _ h => h) fun _ _ h => h
    obtain ⟨t, x, rfl⟩ := hP i vals hv
    refine W.go ts k1 pos i T _ _ _ hM fun h2 st2 hk2 => ?_
    have hk12 : ∀ b o, b ∉ [I, it] → s.heap.get? b = some o → h2.get? b = some o := fun b o hb' e => hk2 b o hb' (hk b o hb' e)
    have x1 : Kp [I, it] s { s with heap := h2, toks := tk } := kp_wr hk12 (hl _ _ st2) hle
    have V' : Vars env own σ P h2 tk := V.keep (fun b o hb' e => hk12 b o (fun q => hb'.elim (hwP b q) (hwF b q)) e) hle
    have y' : VR h2 tk P (f i) x := (d i t x hi hv).mono (fun b o pb e => hk12 b o (fun q => hwP b q pb) e) (fun _ p => p) hle
    refine (hb i hi).at (vs := [.int (i : Int) t, x]) F hh V' (hT.at fun o e => hk2 T o (W.apart i T h' hM) e) (.cons .int (.cons y' .nil)) fun s'' V'' x'' => ?_
    refine k s'' (W.frame _ _ _ st2 fun b hb' o e => x''.keep b o (hfF b hb') e) V'' ((x1.mono fun _ h => List.mem_append_left _ h).trans (x''.mono fun _ h => List.mem_append_right _ h))
  done := fun s Q E st k => wpAny_with_toks (Nat.le_refl s.toks) (W.done s _ _ st fun h' tk hk => fun hle => k h' tk hle hk)
  self := W.self
structure Iter1 (c : Cx) (s s' : Shared) (I : Addr) (fp wr : List Addr) (xs : List AV) (Pv : Nat → Value → Prop) (St : Nat → Heap → Prop) : Prop where
  ext : Ext c.G s s'
  tabs : ∀ P : Addr → Prop, (∀ a, s.heap.get? a = none → P a) → c.G.TO P s.heap → c.G.TO (fun a => P a ∧ a ∉ wr) s'.heap
  W : Walks c.G.prog c.G.w c.A I fp wr xs.length Pv St
  st : St 0 s'.heap
  live : ∀ i h, St i h → ∀ b ∈ wr, ∃ o, h.get? b = some o
  new : ∀ b ∈ wr, s.heap.get? b = none
  fpP : ∀ b ∈ fp, c.P b ∧ ∃ o, s'.heap.get? b = some o
  d : ∀ i v r, xs[i]? = some r → Pv i v → VR s'.heap s'.toks (fun a => c.P a ∧ a ∉ wr) r v
  sz : xs.length ≤ 1000000
noncomputable def EvI (c : Cx) (e : Expr) (xs : List AV) : Prop := c.Ok → ∀ s (Q : Value → Shared → Prop) E, c.Φ s →
  (∀ I fp wr Pv St s', Iter1 c s s' I fp wr xs Pv St → Q (.ref I) s') →
  wpAny c.M c.A (eval e c.env) (fun xv s₁ => wpAny c.M c.A (pyIter xv) Q E s₁) E s
theorem get_ne {h : Heap} {a b : Addr} {o : Obj} (e : h.get? a = some o) (n : h.get? b = none) : a ≠ b := fun q => by rw [q, n] at e; cases e
theorem tabs_push {c : Cx} (o : c.Ok) {s s1 : Shared} {I : Addr} {ob : Obj} (x : Ext c.G s s1) (hI : s1.heap.get? I = none) (P : Addr → Prop) (f : ∀ a, s.heap.get? a = none → P a) (t : c.G.TO P s.heap) : c.G.TO (fun a => P a ∧ a ∉ [I]) (s1.heap.push ob) :=
  o.g.tok _ _ _ (o.g.tmono P _ _ (x.tabs P f t) fun a ob' pa e => ⟨pa, fun q => get_ne e hI (List.mem_singleton.mp q)⟩) fun a ob' _ e => Heap.get?_push_of_some _ e
theorem EvI.list {c : Cx} {e xs} (h : EvE c e (.list xs)) (hn : xs.length ≤ 1000000) : EvI c e xs := fun o s Q E hs k => by
  refine h o s hs _ _ fun v s1 x1 y1 => ?_
  replace y1 := VR.listI y1
  obtain ⟨a, vs, rfl, pa, hl, hv⟩ := y1
  ·
    refine wpAny_pyIter_list hl ?_
    obtain ⟨ol, eol, _⟩ := id hl
    have x2 := ext_push o (s := s1) (ob := { cls := .type "list_iterator", data := .fields #[.ref a, .int 0 0] })
    have hI := size_none s1.heap
    have hne : a ≠ s1.heap.objs.size := get_ne eol hI
    refine k s1.heap.objs.size [s1.heap.objs.size, a] [s1.heap.objs.size] (fun i v => vs.toArray[i]? = some v) (fun i h => h.IsListIter s1.heap.objs.size a i ∧ h.IsList a vs.toArray) _ (Iter1.mk (x1.trans x2) (tabs_push o x1 hI) ?_ ⟨⟨_, Heap.get?_push_size _ rfl, rfl, rfl⟩, hl.push _⟩ ?_ ?_ ?_ ?_ hn)
    · have W := Walks.list (prog := c.G.prog) (w := c.G.w) o.hd s1.heap.objs.size a hne vs.toArray
      have e : vs.toArray.size = xs.length := by rw [List.size_toArray, hv.length]
      rw [e] at W
      exact W
    · intro i h st b hb
      rw [List.mem_singleton.mp hb]
      obtain ⟨o', e', _⟩ := st.1
      exact ⟨o', e'⟩
    · intro b hb
      rw [List.mem_singleton.mp hb]
      exact x1.none hI
    · intro b hb
      rcases List.mem_cons.mp hb with rfl | hb
      · exact ⟨o.fresh s1 _ (o.stab _ _ hs x1) hI, _, Heap.get?_push_size _ rfl⟩
      · rw [List.mem_singleton.mp hb]; exact ⟨pa, _, Heap.get?_push_of_some _ eol⟩
    · intro i v r hx hp
      obtain ⟨v', e', y⟩ := hv.get i hx
      have hp' : vs[i]? = some v := by simpa using hp
      rw [e'] at hp'
      cases hp'
      have y1 := y.lt (P' := fun a => c.P a ∧ a ∉ [s1.heap.objs.size]) fun b ob pb eb => ⟨pb, fun q => get_ne eb hI (List.mem_singleton.mp q)⟩
      exact y1.mono (fun b ob _ eb => Heap.get?_push_of_some _ eb) fun _ p => p
theorem EvI.tuple {c : Cx} {e xs} (h : EvE c e (.tup xs)) (hn : xs.length ≤ 1000000) : EvI c e xs := fun o s Q E hs k => by
  refine h o s hs _ _ fun v s1 x1 y1 => ?_
  replace y1 := VR.tupI y1
  obtain ⟨a, vs, rfl, pa, hl, hv⟩ := y1
  ·
    refine wpAny_pyIter_tuple hl ?_
    obtain ⟨ol, eol, hr⟩ := id hl
    have x2 := ext_push o (s := s1) (ob := { cls := .type "tuple_iterator", data := .fields #[.ref a, .int 0 0] })
    have hI := size_none s1.heap
    have hne : a ≠ s1.heap.objs.size := get_ne eol hI
    refine k s1.heap.objs.size [s1.heap.objs.size, a] [s1.heap.objs.size] (fun i v => vs.toArray[i]? = some v) (fun i h => h.IsTupleIter s1.heap.objs.size a i ∧ h.IsTuple a vs.toArray) _ (Iter1.mk (x1.trans x2) (tabs_push o x1 hI) ?_ ⟨⟨_, Heap.get?_push_size _ rfl, rfl, rfl⟩, ⟨ol, Heap.get?_push_of_some _ eol, hr⟩⟩ ?_ ?_ ?_ ?_ hn)
    · have W := Walks.tuple (prog := c.G.prog) (w := c.G.w) o.hd s1.heap.objs.size a hne vs.toArray
      have e : vs.toArray.size = xs.length := by rw [List.size_toArray, hv.length]
      rw [e] at W
      exact W
    · intro i h st b hb
      rw [List.mem_singleton.mp hb]
      obtain ⟨o', e', _⟩ := st.1
      exact ⟨o', e'⟩
    · intro b hb
      rw [List.mem_singleton.mp hb]
      exact x1.none hI
    · intro b hb
      rcases List.mem_cons.mp hb with rfl | hb
      · exact ⟨o.fresh s1 _ (o.stab _ _ hs x1) hI, _, Heap.get?_push_size _ rfl⟩
      · rw [List.mem_singleton.mp hb]; exact ⟨pa, _, Heap.get?_push_of_some _ eol⟩
    · intro i v r hx hp
      obtain ⟨v', e', y⟩ := hv.get i hx
      have hp' : vs[i]? = some v := by simpa using hp
      rw [e'] at hp'
      cases hp'
      have y1 := y.lt (P' := fun a => c.P a ∧ a ∉ [s1.heap.objs.size]) fun b ob pb eb => ⟨pb, fun q => get_ne eb hI (List.mem_singleton.mp q)⟩
      exact y1.mono (fun b ob _ eb => Heap.get?_push_of_some _ eb) fun _ p => p
noncomputable def signsA (x : Str) : List AV := x.cps.toList.map fun n => .str ⟨#[n]⟩
theorem EvI.str {c : Cx} {e} {x : Str} (h : EvE c e (.str x)) (hn : x.cps.size ≤ 1000000) : EvI c e (signsA x) := fun o s Q E hs k => by
  refine h o s hs _ _ fun v s1 x1 y1 => ?_
  cases y1 with
  | @str _ t =>
    have hI := size_none s1.heap
    have go : ∀ (T : String), (∀ A' : Around, A'.handled = none → Walks c.G.prog c.G.w A' s1.heap.objs.size [s1.heap.objs.size] [s1.heap.objs.size] x.cps.size (SignAt x) (fun i h => h.IsStrIter s1.heap.objs.size T x t i)) →
        Q (.ref s1.heap.objs.size) { s1 with heap := s1.heap.push { cls := .type T, data := .fields #[.str x t, .int 0 0] } } := fun T hW => by
      have x2 := ext_push o (s := s1) (ob := { cls := .type T, data := .fields #[.str x t, .int 0 0] })
      refine k s1.heap.objs.size [s1.heap.objs.size] [s1.heap.objs.size] (SignAt x) (fun i h => h.IsStrIter s1.heap.objs.size T x t i) _ (Iter1.mk (x1.trans x2) (tabs_push o x1 hI) ?_ ⟨_, Heap.get?_push_size _ rfl, rfl, rfl⟩ ?_ ?_ ?_ ?_ ?_)
      · have W := hW c.A o.hd
        have e : (signsA x).length = x.cps.size := by simp [signsA]
        rw [e]; exact W
      · intro i h st b hb
        rw [List.mem_singleton.mp hb]
        obtain ⟨o', e', _⟩ := st
        exact ⟨o', e'⟩
      · intro b hb
        rw [List.mem_singleton.mp hb]
        exact x1.none hI
      · intro b hb
        rw [List.mem_singleton.mp hb]
        exact ⟨o.fresh s1 _ (o.stab _ _ hs x1) hI, _, Heap.get?_push_size _ rfl⟩
      · rintro i v r hx ⟨n, u, hc, rfl⟩
        have : r = .str ⟨#[n]⟩ := by
          rw [signsA, List.getElem?_map] at hx
          have hc' : x.cps.toList[i]? = some n := by simpa using hc
          rw [hc'] at hx
          exact (Option.some.inj hx).symm
        subst this
        exact .str
      · simpa [signsA] using hn
    cases ha : x.cps.all (· < 128)
    · exact wpAny_pyIter_wide ha (go _ fun A' hA => Walks.strWide hA _ x t)
    · exact wpAny_pyIter_ascii ha (go _ fun A' hA => Walks.strAscii hA _ x t)
theorem EvI.range {c : Cx} {x : Str} {p pos : Pos} {e : Expr} {n : Nat} (hf : EvE c (.Name x p) (.raw (.type "range"))) (h : EvE c e (.int n)) (hn : n ≤ 1000000) (he : starEach [e] c.env = [(false, eval e c.env)] := by rfl) :
    EvI c (.Call (.Name x p) [e] [] pos) ((List.range n).map fun (i : Nat) => AV.int i) := fun o s Q E hs k => by
  rw [arm_eval_Call_Name']
  refine wpAny_bind (hf o s hs _ _ fun v s1 x1 y1 => ?_)
  (first | ((first | replace y1 := VR.intI y1 | replace y1 := VR.strI y1); obtain ⟨_, rfl⟩ := y1) | ((first | replace y1 := VR.rawI y1 | replace y1 := VRs.nilI y1 | replace y1 := VR.boolI y1 | replace y1 := VR.noneI y1); subst y1) | cases y1)
  have hs1 := o.stab _ _ hs x1
  have ha : EvA c [e] [.int n] := .cons h .nil he
  refine callW o hs1 .type ha fun vs s2 x2 y2 => ?_
  replace y2 := VRs.consI y2
  obtain ⟨_, _, rfl, yv, yn⟩ := y2
  ·
    (first | ((first | replace yn := VR.intI yn | replace yn := VR.strI yn); obtain ⟨_, rfl⟩ := yn) | ((first | replace yn := VR.rawI yn | replace yn := VRs.nilI yn | replace yn := VR.boolI yn | replace yn := VR.noneI yn); subst yn) | cases yn)
    cases yv with
    | @int _ t =>
      show wpAny _ _ (call (.type "range") [.int n t]) _ _ _
      refine call_range_1 ?_
      generalize hh : s2.heap.push { cls := .type "range", data := .fields #[.int 0 s2.toks, .int n t, .int 1 (s2.toks + 1)] } = h3
      have hr : IsRange h3 s2.heap.objs.size 0 n 1 s2.toks t (s2.toks + 1) := by rw [← hh]; exact Heap.get?_push_size _ rfl
      have hsize : Builtin.Range.rangeSize 0 (n : Int) 1 = n := by
        unfold Builtin.Range.rangeSize
        simp
        omega
      have hsm : Builtin.Range.small 0 (n : Int) 1 = true := by
        unfold Builtin.Range.small Builtin.Range.rangeFitsLong
        rw [hsize]
        simp
        omega
      refine wpAny_pyIter_range (s := { s2 with heap := h3, toks := s2.toks + 1 + 1 }) hr hsm ?_
      have x3 : Ext c.G s2 { s2 with heap := h3, toks := s2.toks + 1 + 1 } := Ext.of o.g fun a ob e => by rw [← hh]; exact Heap.get?_push_of_some _ e
      have x4 := ext_push o (s := { s2 with heap := h3, toks := s2.toks + 1 + 1 }) (ob := { cls := .type "range_iterator", data := .fields #[rawInt 0, rawInt (Builtin.Range.rangeSize 0 n 1), rawInt 1] })
      have hI := size_none h3
      refine k h3.objs.size [h3.objs.size] [h3.objs.size] (fun i v => ∃ t, v = .int (0 + (i : Int) * 1) t) (fun i h => IsRangeIter h h3.objs.size (0 + (i : Nat) * 1) ((n : Int) - (i : Nat)) 1) _
        ⟨((x1.trans x2).trans x3).trans x4, tabs_push (s1 := { s2 with heap := h3, toks := s2.toks + 1 + 1 }) o ((x1.trans x2).trans x3) hI, ?_, ?_, ?_, ?_, ?_, ?_, ?_⟩
      · have W := Walks.range (prog := c.G.prog) (w := c.G.w) o.hd h3.objs.size 0 1 n
        have e : ((List.range n).map fun (i : Nat) => AV.int i).length = n := by simp
        rw [e]; exact W
      · show IsRangeIter _ _ _ _ _
        rw [hsize]
        have e0 : (0 : Int) + ((0 : Nat) : Int) * 1 = 0 := by omega
        have e1 : (n : Int) - ((0 : Nat) : Int) = n := by omega
        rw [e0, e1]
        exact Heap.get?_push_size h3 rfl
      · intro i h st b hb
        rw [List.mem_singleton.mp hb]
        exact ⟨_, st⟩
      · intro b hb
        rw [List.mem_singleton.mp hb]
        exact x1.none (x2.none (x3.none hI))
      · intro b hb
        rw [List.mem_singleton.mp hb]
        exact ⟨o.fresh { s2 with heap := h3, toks := s2.toks + 1 + 1 } _ (o.stab _ _ hs ((x1.trans x2).trans x3)) hI, _, Heap.get?_push_size _ rfl⟩
      · rintro i v r hx ⟨t, rfl⟩
        have hi : i < n := by simpa using (List.getElem?_eq_some_iff.mp hx).1
        have : r = .int i := by
          rw [List.getElem?_map, List.getElem?_range hi] at hx
          exact (Option.some.inj hx).symm
        subst this
        have : (0 + (i : Int) * 1) = i := by omega
        rw [this]
        exact .int
      · simpa using hn
structure IterG (c : Cx) (s s' : Shared) (target : Expr) (I : Addr) (fp wr : List Addr) (n : Nat) (St : Nat → Heap → Prop) (bs : Nat → List (Str × AV)) (Tg : Env → List (Str × Addr) → (Addr → Prop) → Prop) : Prop where
  ext : Ext c.G s s'
  tabs : ∀ P : Addr → Prop, (∀ a, s.heap.get? a = none → P a) → c.G.TO P s.heap → c.G.TO (fun a => P a ∧ a ∉ wr) s'.heap
  st : St 0 s'.heap
  new : ∀ b ∈ wr, s.heap.get? b = none
  fpP : ∀ b ∈ fp, c.P b ∧ ∃ o, s'.heap.get? b = some o
  turns : ∀ env own P', FOk env own P' → Tg env own P' → (∀ a, P' a → c.P a ∧ a ∉ wr) → (∀ a o, c.P a ∧ a ∉ wr → s'.heap.get? a = some o → P' a) → (∀ b ∈ fp, b ∉ FAd env own) →
    ∃ D : Heap → Nat → Prop, D s'.heap s'.toks ∧ Turns c.G.prog c.G.w c.A env own P' target I fp wr n St D bs
noncomputable def EvG (c : Cx) (e : Expr) (target : Expr) (n : Nat) (bs : Nat → List (Str × AV)) (Tg : Env → List (Str × Addr) → (Addr → Prop) → Prop) : Prop := c.Ok → ∀ s (Q : Value → Shared → Prop) E, c.Φ s →
  (∀ I fp wr St s', IterG c s s' target I fp wr n St bs Tg → Q (.ref I) s') →
  wpAny c.M c.A (eval e c.env) (fun xv s₁ => wpAny c.M c.A (pyIter xv) Q E s₁) E s
theorem EvG.name {c : Cx} {e xs x px} (h : EvI c e xs) (f : Nat → AV) (hf : ∀ i, i < xs.length → xs[i]? = some (f i)) : EvG c e (.Name x px) xs.length (fun i => [(x, f i)]) (fun env own P' => Kd env own x) := fun o s Q E hs k => by
  refine h o s _ _ hs fun I fp wr Pv St s' it => k I fp wr St s' ⟨it.ext, it.tabs, it.st, it.new, it.fpP, fun env own P' F hx h1 h2 h3 => ?_⟩
  have hw : ∀ b ∈ wr, b ∈ fp := it.W.sub
  refine ⟨_, fun i v hi hv => ?_, Turns.name F it.W hx o.hd f it.live (fun b hb pb => (h1 b pb).2 hb) (fun b hb => h3 b (hw b hb)) h3⟩
  exact (it.d i v _ (hf i hi) hv).lt fun a ob pa e => h2 a ob pa e
theorem newEnv_cells {M : Model} {A : Around} {E : Value → Shared → Prop} {s : Shared} {scope : Scope} {globals : Addr} {cl : List (Str × Addr)} {qual : Str} {outer : Env} {Q : Env → Shared → Prop}
    (hQ : Q { scope, locals := s.heap.objs.size, globals, cells := cellsFrom (s.heap.objs.size + 1) scope.names cl, qual, func := none, code := outer.code, frame := outer.frame, builtins := outer.builtins }
      { s with heap := pushCells (s.heap.push { cls := .type "dict", data := .dict #[] }) scope.names }) :
    wpAny M A (newFunctionEnv scope globals cl [] qual none .none (some outer)) Q E s := by
  simp only [newFunctionEnv, Option.isSome_some, if_true]
  refine wpAny_bind (wpAny_alloc ?_)
  refine wpAny_bind (wpAny_layCells _ (fun name kind cells => by cases hkc : kind == NameKind.cell <;> simp [hkc]) _ _ _ _ ?_)
  rw [show ({ s with heap := s.heap.push { cls := .type "dict", data := .dict #[] } } : Shared).heap.objs.size = s.heap.objs.size + 1 from Heap.size_push ..]
  refine wpAny_bind ?_
  rw [List.forIn_nil]
  exact wpAny_pure (wpAny_pure hQ)
theorem cellsFrom_acc : ∀ (names : List (Str × NameKind)) (n : Nat) (acc : List (Str × Addr)), cellsFrom n names acc = cellsFrom n names [] ++ acc
  | [], _, _ => rfl
  | (name, kind) :: r, n, acc => by
    unfold cellsFrom
    cases hk : kind == NameKind.cell with
    | true =>
      simp only [if_true]
      rw [cellsFrom_acc r (n + 1) ((name, n) :: acc), cellsFrom_acc r (n + 1) [(name, n)], List.append_assoc]
      rfl
    | false =>
      simp only [Bool.false_eq_true, if_false]
      exact cellsFrom_acc r n acc
noncomputable def clOf (env : Env) : List (Str × NameKind) → List (Str × Addr) → List (Str × Addr)
  | [], acc => acc
  | (n, k) :: r, acc => if k == .free then clOf env r ((n, (env.cells.lookup n).getD 0) :: acc) else clOf env r acc
theorem closure_aux {env : Env} (f : Str × NameKind → List (Str × Addr) → Sem (ForInStep (List (Str × Addr))))
    (hf : ∀ n k acc, f (n, k) acc = if k == .free then (do let y ← cellOf env n; pure (ForInStep.yield ((n, y) :: acc))) else pure (ForInStep.yield acc)) :
    ∀ (l : List (Str × NameKind)) (acc : List (Str × Addr)), (∀ p ∈ l, p.2 = .free → (env.cells.lookup p.1).isSome = true) → forIn l acc f = pure (clOf env l acc)
  | [], acc, _ => by rw [List.forIn_nil]; rfl
  | (n, k) :: r, acc, hp => by
    rw [List.forIn_cons, hf]
    unfold clOf
    cases hk : k == NameKind.free with
    | true =>
      obtain ⟨a, ha⟩ := Option.isSome_iff_exists.mp (hp (n, k) (.head _) (beq_iff_eq.mp hk))
      have ha' : env.cells.lookup n = some a := ha
      rw [if_pos rfl, if_pos rfl]
      unfold cellOf
      rw [ha']
      exact closure_aux f hf r _ fun q hq => hp q (.tail _ hq)
    | false =>
      rw [if_neg (by decide), if_neg (by decide)]
      exact closure_aux f hf r _ fun q hq => hp q (.tail _ hq)
theorem closure_eq {scope : Scope} {env : Env} (h : ∀ p ∈ scope.names, p.2 = .free → (env.cells.lookup p.1).isSome = true) : closureFor scope env = pure (clOf env scope.names []) := by
  unfold closureFor
  dsimp only
  rw [closure_aux (env := env) _ (fun n k acc => by cases hk : k == NameKind.free <;> simp) scope.names [] h]
  rfl
theorem clOf_lookup {env : Env} : ∀ {l : List (Str × NameKind)} {acc : List (Str × Addr)} {x : Str}, (x, NameKind.free) ∈ l → ∃ a, (clOf env l acc).lookup x = some a ∧ a = (env.cells.lookup x).getD 0 := by
  have mono : ∀ (l : List (Str × NameKind)) (acc : List (Str × Addr)) (x : Str), (acc.lookup x = some ((env.cells.lookup x).getD 0)) → (clOf env l acc).lookup x = some ((env.cells.lookup x).getD 0) := by
    intro l
    induction l with
    | nil => intro acc x h; exact h
    | cons p r ih =>
      intro acc x h
      obtain ⟨n, k⟩ := p
      unfold clOf
      split
      · refine ih _ x ?_
        rw [List.lookup_cons]
        cases hb : x == n with
        | true => rw [beq_iff_eq.mp hb]
        | false => exact h
      · exact ih _ x h
  intro l
  induction l with
  | nil => intro acc x h; cases h
  | cons p r ih =>
    intro acc x h
    obtain ⟨n, k⟩ := p
    rcases List.mem_cons.mp h with e | h
    · cases e
      refine ⟨_, ?_, rfl⟩
      unfold clOf
      simp only [beq_self_eq_true, if_true]
      exact mono r _ x (by rw [List.lookup_cons, beq_self_eq_true])
    · unfold clOf
      split
      · exact ih h
      · exact ih h
noncomputable def ownOf (scope : Scope) (C : Addr) : List (Str × Addr) := cellsFrom (C + 1) scope.names []
noncomputable def innerEnv (env : Env) (scope : Scope) (C : Addr) : Env := { scope := relabel scope env, locals := C, globals := env.globals, cells := ownOf scope C ++ clOf env scope.names [], qual := env.qual, func := none, code := env.code, frame := env.frame, builtins := env.builtins }
theorem cellsFrom_mem : ∀ {names : List (Str × NameKind)} {n : Nat} {acc : List (Str × Addr)} {x a}, (x, a) ∈ cellsFrom n names acc → (x, a) ∈ acc ∨ (x, NameKind.cell) ∈ names
  | [], _, _, _, _, h => .inl h
  | (nm, k) :: r, n, acc, x, a, h => by
    unfold cellsFrom at h
    cases hk : k == NameKind.cell with
    | true =>
      rw [hk, if_pos rfl] at h
      rcases cellsFrom_mem h with h | h
      · rcases List.mem_cons.mp h with e | h
        · cases e; rw [beq_iff_eq.mp hk]; exact .inr (.head _)
        · exact .inl h
      · exact .inr (.tail _ h)
    | false =>
      rw [hk, if_neg (by decide)] at h
      exact (cellsFrom_mem h).imp_right (.tail _)
theorem cellsFrom_has : ∀ {names : List (Str × NameKind)} {n : Nat} {acc : List (Str × Addr)} {x}, ((x, NameKind.cell) ∈ names ∨ ∃ a, (x, a) ∈ acc) → ∃ a, (x, a) ∈ cellsFrom n names acc
  | [], _, _, _, h => by rcases h with h | h; cases h; exact h
  | (nm, k) :: r, n, acc, x, h => by
    unfold cellsFrom
    cases hk : k == NameKind.cell with
    | true =>
      rw [if_pos rfl]
      refine cellsFrom_has ?_
      rcases h with h | ⟨a, h⟩
      · rcases List.mem_cons.mp h with e | h
        · cases e; exact .inr ⟨_, .head _⟩
        · exact .inl h
      · exact .inr ⟨a, .tail _ h⟩
    | false =>
      rw [if_neg (by decide)]
      refine cellsFrom_has (h.imp_left fun h => ?_)
      rcases List.mem_cons.mp h with e | h
      · cases e; cases hk
      · exact h
theorem cellsFrom_keys : ∀ {names : List (Str × NameKind)} {n : Nat} {acc : List (Str × Addr)}, acc.Pairwise (fun x y => x.1 ≠ y.1) → (names.map Prod.fst).Nodup → (∀ p ∈ acc, p.1 ∉ names.map Prod.fst) → (cellsFrom n names acc).Pairwise (fun x y => x.1 ≠ y.1)
  | [], _, _, h, _, _ => h
  | (nm, k) :: r, n, acc, h, hn, hd => by
    have hn' := List.nodup_cons.mp hn
    unfold cellsFrom
    cases hk : k == NameKind.cell with
    | true =>
      rw [if_pos rfl]
      refine cellsFrom_keys (List.pairwise_cons.mpr ⟨fun p hp e => ?_, h⟩) hn'.2 fun p hp => ?_
      · have e' : nm = p.1 := e
        exact hd p hp (e' ▸ .head _)
      · rcases List.mem_cons.mp hp with rfl | hp
        · exact hn'.1
        · exact fun q => hd p hp (.tail _ q)
    | false =>
      rw [if_neg (by decide)]
      exact cellsFrom_keys h hn'.2 fun p hp q => hd p hp (.tail _ q)
theorem lookup_pw {α : Type} : ∀ {l : List (Str × α)} {x : Str} {a : α}, l.Pairwise (fun x y => x.1 ≠ y.1) → (x, a) ∈ l → l.lookup x = some a
  | (y, b) :: r, x, a, hp, h => by
    obtain ⟨h1, h2⟩ := List.pairwise_cons.mp hp
    rw [List.lookup_cons]
    rcases List.mem_cons.mp h with e | h
    · cases e; rw [beq_self_eq_true]
    · have : (x == y) = false := by
        refine beq_eq_false_iff_ne.mpr fun e => h1 _ h e.symm
      rw [this]
      exact lookup_pw h2 h
theorem pw_of_nodup {α : Type} : ∀ {l : List (Str × α)}, (l.map Prod.fst).Nodup → l.Pairwise (fun x y => x.1 ≠ y.1)
  | [], _ => .nil
  | p :: r, h => by
    have h' := List.nodup_cons.mp h
    exact List.pairwise_cons.mpr ⟨fun q hq e => h'.1 (e ▸ List.mem_map.mpr ⟨q, hq, rfl⟩), pw_of_nodup h'.2⟩
noncomputable def relK (env : Env) (x : Str) (k : NameKind) : NameKind := if (k == NameKind.free && env.scope.kind == .function && env.kindOf x == some .cell) then .cell else k
theorem relabel_lookup {env : Env} : ∀ {names : List (Str × NameKind)} {x : Str} {k : NameKind}, names.lookup x = some k →
    (names.map fun (n, k) => if (k == NameKind.free && env.scope.kind == .function && env.kindOf n == some .cell) then (n, NameKind.cell) else (n, k)).lookup x = some (relK env x k)
  | [], _, _, h => by simp at h
  | (n, k') :: r, x, k, h => by
    have ih := @relabel_lookup env r x k
    have e1 : (if (k' == NameKind.free && env.scope.kind == .function && env.kindOf n == some .cell) then (n, NameKind.cell) else (n, k')) = (n, relK env n k') := by
      unfold relK; split <;> rfl
    show List.lookup x ((if (k' == NameKind.free && env.scope.kind == .function && env.kindOf n == some .cell) then (n, NameKind.cell) else (n, k')) :: _) = _
    rw [e1, List.lookup_cons]
    cases hx : x == n with
    | true =>
      simp only [List.lookup_cons, hx] at h
      cases h
      rw [beq_iff_eq.mp hx]
    | false =>
      simp only [List.lookup_cons, hx] at h
      exact ih h
section
variable {env : Env} {scope : Scope} {C : Addr}
theorem inner_kind {x : Str} {k : NameKind} (h : scope.names.lookup x = some k) : (innerEnv env scope C).kindOf x = some (relK env x k) := relabel_lookup h
theorem own_pw (hnd : (scope.names.map Prod.fst).Nodup) : (ownOf scope C).Pairwise (fun x y => x.1 ≠ y.1) := cellsFrom_keys .nil hnd fun p hp => nomatch hp
theorem own_cell (hnd : (scope.names.map Prod.fst).Nodup) {x a} (h : (x, a) ∈ ownOf scope C) : scope.names.lookup x = some .cell :=
  lookup_pw (pw_of_nodup hnd) ((cellsFrom_mem h).resolve_left fun q => nomatch q)
theorem own_look (hnd : (scope.names.map Prod.fst).Nodup) {x} (h : scope.names.lookup x = some .cell) : ∃ a, (ownOf scope C).lookup x = some a := by
  obtain ⟨a, ha⟩ := cellsFrom_has (names := scope.names) (n := C + 1) (acc := []) (.inl (mem_of_lookup h))
  exact ⟨a, lookup_pw (own_pw hnd) ha⟩
theorem own_none (hnd : (scope.names.map Prod.fst).Nodup) {x k} (h : scope.names.lookup x = some k) (hk : k ≠ .cell) : (ownOf scope C).lookup x = none := by
  cases e : (ownOf scope C).lookup x with
  | none => rfl
  | some a =>
    have := own_cell hnd (mem_of_lookup e)
    rw [h] at this
    exact absurd (Option.some.inj this) hk
theorem Kd.inner (hnd : (scope.names.map Prod.fst).Nodup) {x k} (h : scope.names.lookup x = some k) (hk : k = .local ∨ k = .cell) : Kd (innerEnv env scope C) (ownOf scope C) x := by
  have e := inner_kind (env := env) (C := C) h
  rcases hk with rfl | rfl
  · exact .inl e
  · exact .inr ⟨e, own_look hnd h⟩
theorem look_append {α : Type} : ∀ {l r : List (Str × α)} {x : Str}, l.lookup x = none → (l ++ r).lookup x = r.lookup x
  | [], _, _, _ => rfl
  | (y, b) :: l, r, x, h => by
    rw [List.cons_append, List.lookup_cons]
    rw [List.lookup_cons] at h
    cases hx : x == y with
    | true => rw [hx] at h; cases h
    | false => rw [hx] at h; exact look_append h
theorem look_append_some {α : Type} : ∀ {l r : List (Str × α)} {x : Str} {a}, l.lookup x = some a → (l ++ r).lookup x = some a
  | (y, b) :: l, r, x, a, h => by
    rw [List.cons_append, List.lookup_cons]
    rw [List.lookup_cons] at h
    cases hx : x == y with
    | true => rw [hx] at h; exact h
    | false => rw [hx] at h; exact look_append_some h
end
structure InS (c : Cx) (P : Addr → Prop) (env : Env) (own : List (Str × Addr)) (MU : List Addr) (σ : List (Str × AV)) (s : Shared) : Prop where
  base : ∃ s0, c.Φ s0 ∧ Ext c.G s0 s ∧ ∀ a ∈ MU, s0.heap.get? a = none
  glob : Glob c.G P s
  vars : Vars env own σ P s.heap s.toks
  live : ∀ a ∈ MU, ∃ o, s.heap.get? a = some o
noncomputable def Cx.inner (c : Cx) (scope : Scope) (C : Addr) (MU : List Addr) (σ : List (Str × AV)) : Cx where
  G := c.G
  A := c.A
  env := innerEnv c.env scope C
  P := fun a => c.P a ∧ a ∉ MU
  Φ := InS c (fun a => c.P a ∧ a ∉ MU) (innerEnv c.env scope C) (ownOf scope C) MU σ
theorem inner_ok {c : Cx} (o : c.Ok) {scope C MU σ} (F : FOk (innerEnv c.env scope C) (ownOf scope C) (fun a => c.P a ∧ a ∉ MU)) : (c.inner scope C MU σ).Ok where
  g := o.g
  glob := fun s h => h.glob
  stab := fun s s' h x => by
    obtain ⟨s0, h0, x0, hn⟩ := h.base
    have hs := o.stab _ _ h0 x0
    refine ⟨⟨s0, h0, x0.trans x, hn⟩, h.glob.ext o.g x fun a e => ⟨o.fresh s a hs e, fun ha => ?_⟩, h.vars.ext F (fun a pa => o.pt a pa.1) x, fun a ha => ?_⟩
    · obtain ⟨ob, eo⟩ := h.live a ha
      rw [e] at eo; cases eo
    · obtain ⟨ob, eo⟩ := h.live a ha
      exact x.live a ob eo
  fresh := fun s a h e => by
    obtain ⟨s0, h0, x0, hn⟩ := h.base
    refine ⟨o.fresh s a (o.stab _ _ h0 x0) e, fun ha => ?_⟩
    obtain ⟨ob, eo⟩ := h.live a ha
    rw [e] at eo; cases eo
  pt := fun a h => o.pt a h.1
  hd := o.hd
  room := o.room
  units := o.units
  kind := F.kind
  eg := o.eg
  eb := o.eb
noncomputable def CellHas (c : Cx) (x : Str) (r : AV) : Prop := c.Ok → ∃ a, c.env.cells.lookup x = some a ∧ a ∉ Tb ∧ ∀ s, c.Φ s → ∃ v, s.heap.IsCell a (some v) ∧ VR s.heap s.toks c.P r v
noncomputable def CxOk' (c : Cx) : Prop := c.Ok
theorem InS.get {c : Cx} (o : c.Ok) {P env own MU σ s} (h : InS c P env own MU σ s) (hP : ∀ a, P a ↔ c.P a ∧ a ∉ MU) {a : Addr} (ha : a ∉ Tb) {r : AV} (k : ∀ s, c.Φ s → ∃ v, s.heap.IsCell a (some v) ∧ VR s.heap s.toks c.P r v) : ∃ v, s.heap.IsCell a (some v) ∧ VR s.heap s.toks P r v := by
  obtain ⟨s0, h0, x0, hn⟩ := h.base
  obtain ⟨v, ⟨ob, eo, ed⟩, y⟩ := k s0 h0
  refine ⟨v, ⟨ob, x0.keep a ob ha eo, ed⟩, ?_⟩
  exact (y.lt fun b ob pb eb => (hP b).mpr ⟨pb, fun q => by rw [hn b q] at eb; cases eb⟩).mono (fun b ob pb eb => x0.keep b ob (o.pt b ((hP b).mp pb).1) eb) (fun _ p => p) x0.le
section
variable {c : Cx} {scope : Scope} {C : Addr} {MU : List Addr} {σ : List (Str × AV)} {x : Str} {r : AV}
theorem CellHas.inner (o : c.Ok) (h : CellHas c x r) (hnd : (scope.names.map Prod.fst).Nodup) (hx : scope.names.lookup x = some .free) : CellHas (c.inner scope C MU σ) x r := fun _ => by
  obtain ⟨a, ha, ht, k⟩ := h o
  refine ⟨a, ?_, ht, fun s hs => hs.get o (fun _ => Iff.rfl) ht k⟩
  show (ownOf scope C ++ clOf c.env scope.names []).lookup x = some a
  rw [look_append (own_none hnd hx (by decide))]
  obtain ⟨a', h1, rfl⟩ := clOf_lookup (env := c.env) (acc := []) (mem_of_lookup hx)
  rw [h1, ha]; rfl
theorem Has.free (o : c.Ok) (h : CellHas c x r) (hnd : (scope.names.map Prod.fst).Nodup) (hx : scope.names.lookup x = some .free) (hcd : (x == ("__classdict__" : Str)) = false := by decide) : Has (c.inner scope C MU σ) x r := fun o' s hs => by
  obtain ⟨a, ha, ht, k⟩ := h.inner (C := C) (MU := MU) (σ := σ) o hnd hx o'
  obtain ⟨v, hc, y⟩ := k s hs
  refine ⟨v, y, fun Q E q => ?_⟩
  have hk := inner_kind (env := c.env) (C := C) hx
  have hk2 : relK c.env x .free = .cell ∨ relK c.env x .free = .free := by unfold relK; split; exact .inl rfl; exact .inr rfl
  rcases hk2 with e | e <;> rw [e] at hk
  · exact wpAny_loadName_cell o'.kind hk ha hc q
  · exact wpAny_loadName_free o'.kind hk ha hc q hcd
theorem Has.here (hnd : (scope.names.map Prod.fst).Nodup) (hv : σ.lookup x = some r) {k : NameKind} (hx : scope.names.lookup x = some k) (hk : k = .local ∨ k = .cell) : Has (c.inner scope C MU σ) x r := fun o' s hs => by
  have e := inner_kind (env := c.env) (C := C) hx
  rcases hk with rfl | rfl
  · obtain ⟨m, hn, hm⟩ := hs.vars.loc
    obtain ⟨v, h1, h2⟩ := hm x r hv e
    exact ⟨v, h2, fun Q E q => wpAny_loadName_local o'.kind e hn h1 q⟩
  · obtain ⟨a, ha⟩ := own_look (C := C) hnd hx
    obtain ⟨ov, hc, h2⟩ := hs.vars.cel x a ha
    obtain ⟨v, rfl, y⟩ := h2 r hv
    exact ⟨v, y, fun Q E q => wpAny_loadName_cell o'.kind e (look_append_some ha) hc q⟩
theorem CellHas.here (hnd : (scope.names.map Prod.fst).Nodup) (hv : σ.lookup x = some r) (hx : scope.names.lookup x = some .cell) (hT : ∀ a ∈ (ownOf scope C).map (·.2), a ∉ Tb) : CellHas (c.inner scope C MU σ) x r := fun o' => by
  obtain ⟨a, ha⟩ := own_look (C := C) hnd hx
  refine ⟨a, look_append_some ha, hT a (List.mem_map.mpr ⟨_, mem_of_lookup ha, rfl⟩), fun s hs => ?_⟩
  obtain ⟨ov, hc, h2⟩ := hs.vars.cel x a ha
  obtain ⟨v, rfl, y⟩ := h2 r hv
  exact ⟨v, hc, y⟩
end
theorem Has.global {c : Cx} {x : Str} {v : Value} (hk : c.env.kindOf x = some .globalImplicit) (e : nsIn c.G.K mainGlobals x = some (some v)) : Has c x (.raw v) := fun o s hs => by
  have T := (o.glob s hs).top o.g
  have X := (o.glob s hs).kin o.g
  refine ⟨v, .raw, fun Q E q => ?_⟩
  rw [loadName_read o.kind hk]
  exact Calls.loadGlobal_global (show s.heap.Ns c.env.globals c.G.mg from o.eg ▸ T.g) (mg_of X T.g e) q
theorem Has.builtin {c : Cx} {x : Str} {v : Value} (hk : c.env.kindOf x = some .globalImplicit) (e : nsIn c.G.K mainGlobals x = some none) (hv : bootBuiltins x = some v) (hn : x ≠ "__name__" := by decide) : Has c x (.raw v) := fun o s hs => by
  have T := (o.glob s hs).top o.g
  have X := (o.glob s hs).kin o.g
  refine ⟨v, .raw, fun Q E q => ?_⟩
  rw [loadName_read o.kind hk]
  exact Calls.loadGlobal_builtin (show s.heap.Ns c.env.globals c.G.mg from o.eg ▸ T.g) (mg_none_of X T.g e) (show s.heap.Ns c.env.builtins c.G.mb from o.eb ▸ T.b) ((T.builtins x hn).trans hv) q
noncomputable def EvTs (c : Cx) (ifs : List Expr) (b : Bool) : Prop := c.Ok → ∀ s Q E, c.Φ s → (∀ s', Ext c.G s s' → Q b s') →
  wpAny c.M c.A (forIn ifs true fun t r => if r = true then do let ok ← isTrue t c.env (eval t c.env); pure (ForInStep.yield ok) else pure (ForInStep.yield r)) Q E s
theorem EvTs.nil {c : Cx} : EvTs c [] true := fun o s Q E hs k => wpAny_tests_nil (k s (.refl s))
theorem EvTs.one {c : Cx} {e b} (h : EvT c e b) : EvTs c [e] b := fun o s Q E hs k => wpAny_tests_one (h o s _ _ hs k)
theorem comp_loop {prog : Program} {w : World} {A : Around} {R : Result → Shared → Prop} {elt target iter : Expr} {ifs : List Expr} {scope : Scope} {pos : Pos} {it acc : Value} {env : Env} {s : Shared} (I : Nat → Shared → Prop)
    (turn : ∀ n s, I n s → ∀ EE, EE = (notedBy (model prog w) A env fun e s' => R (.error e) s') → wpAny (model prog w) A (pyNext it) (fun r s₁ => match r with
      | none => R (.ok .next) s₁
      | some v => wpAny (model prog w) A (letOwnedTupleGo target it v) (fun _ s₁' => wpAny (model prog w) A (assign target env v) (fun _ s₂ =>
          wpAny (model prog w) A (forIn ifs true fun c r => if r = true then do let ok ← isTrue c env (eval c env); pure (ForInStep.yield ok) else pure (ForInStep.yield r)) (fun ok s₃ =>
            if ok = true then wpAny (model prog w) A (eval elt env) (fun x s₄ =>
              wpAny (model prog w) A (call (.builtin "list.append") [acc, x]) (fun _ s₅ => ∃ m, m < n ∧ I m s₅) EE s₄) EE s₃
            else ∃ m, m < n ∧ I m s₃) EE s₂) EE s₁') EE s₁) EE s)
    (n : Nat) (h : I n s) : codeAny (model prog w) A (.compLoop (.ListComp elt [⟨target, iter, ifs, 0⟩] scope pos) 0 it acc env) R s := by
  refine codeAny_loop rfl I (fun n s hI => ?_) n h
  show wpAny _ A ((compTurn (.ListComp elt [⟨target, iter, ifs, 0⟩] scope pos) 0 it acc env).onRaise (fun x => do noteFrame x env; theTreesLotGoes x)) _ _ s
  refine wpAny_noted ?_
  rw [compTurn_list]
  refine wpAny_bind (wpAny_standAt (wpAny_bind (wpAny_mono (turn n s hI _ rfl) (fun r s₁ h₁ => ?_) fun _ _ h' => h')))
  cases r with
  | none => exact wpAny_pure h₁
  | some v =>
    refine wpAny_bind (wpAny_mono h₁ (fun _ s₁' h₁' => ?_) fun _ _ h' => h')
    refine wpAny_bind (wpAny_mono h₁' (fun _ s₂ h₂ => wpAny_bind (wpAny_mono h₂ (fun ok s₃ h₃ => ?_) fun _ _ h' => h')) fun _ _ h' => h')
    cases ok with
    | false => exact wpAny_pure ⟨rfl, h₃⟩
    | true =>
      exact wpAny_bind (wpAny_bind (wpAny_mono h₃ (fun x s₄ h₄ => wpAny_bind (wpAny_mono h₄ (fun _ s₅ h₅ => wpAny_pure (wpAny_pure ⟨rfl, h₅⟩)) fun _ _ h' => h')) fun _ _ h' => h'))
theorem ge_none {h : Heap} {a : Addr} (e : h.objs.size ≤ a) : h.get? a = none := by
  cases g : h.get? a with
  | none => rfl
  | some o => exact absurd (Heap.lt_size g) (Nat.not_lt.mpr e)
theorem Vars.sub {env own σ σ' P h τ} (V : Vars env own σ P h τ) (k : ∀ x r, σ'.lookup x = some r → σ.lookup x = some r) : Vars env own σ' P h τ := by
  obtain ⟨⟨m, hn, hm⟩, hc⟩ := V
  refine ⟨⟨m, hn, fun x r e => hm x r (k x r e)⟩, fun x a e => ?_⟩
  obtain ⟨ov, h1, h2⟩ := hc x a e
  exact ⟨ov, h1, fun r er => h2 r (k x r er)⟩
structure Bt (c : Cx) (s0 : Shared) (MU : List Addr) (s : Shared) : Prop where
  kp : Kp Tb s0 s
  tabs : ∀ P : Addr → Prop, (∀ a, s0.heap.get? a = none → P a) → c.G.TO P s0.heap → c.G.TO (fun a => P a ∧ a ∉ MU) s.heap
  live : ∀ a ∈ MU, ∃ o, s.heap.get? a = some o
theorem Bt.ext {c : Cx} {s0 MU s} (b : Bt c s0 MU s) (o : c.Ok) : Ext c.G s0 s := ⟨b.kp, fun P f t => c_tmono b o P f t⟩
where
  c_tmono {c : Cx} {s0 MU s} (b : Bt c s0 MU s) (o : c.Ok) (P : Addr → Prop) (f : ∀ a, s0.heap.get? a = none → P a) (t : c.G.TO P s0.heap) : c.G.TO P s.heap :=
    o.g.tmono (fun a => P a ∧ a ∉ MU) _ _ (b.tabs P f t) fun a _ h _ => h.1
theorem Bt.up {c : Cx} {s0 MU s s'} (b : Bt c s0 MU s) (o : c.Ok) (hT : ∀ a ∈ MU, a ∉ Tb) (hn : ∀ a ∈ MU, s0.heap.get? a = none) (same : ∃ h tk, s' = { s with heap := h, toks := tk }) (keep : ∀ a ob, a ∉ MU → s.heap.get? a = some ob → s'.heap.get? a = some ob) (live : ∀ a ∈ MU, ∃ ob, s'.heap.get? a = some ob) (le : s.toks ≤ s'.toks) : Bt c s0 MU s' where
  kp := by
    have le' := Nat.le_trans b.kp.le le
    obtain ⟨h, tk, rfl⟩ := b.kp.same
    obtain ⟨h', tk', rfl⟩ := same
    have out : ∀ a ob, s0.heap.get? a = some ob → a ∉ MU := fun a ob e q => by rw [hn a q] at e; cases e
    refine ⟨⟨h', tk', rfl⟩, fun a ob n e => keep a ob (out a ob e) (b.kp.keep a ob n e), fun a ob e => ?_, le'⟩
    obtain ⟨o', e'⟩ := b.kp.live a ob e
    exact ⟨o', keep a o' (out a ob e) e'⟩
  tabs := fun P f t => o.g.tok _ _ _ (b.tabs P f t) fun a ob h e => keep a ob (h.elim (·.2) fun ht q => hT a q ht) e
  live := live
theorem Bt.onE {c : Cx} {s0 MU s s'} (b : Bt c s0 MU s) (x : Ext c.G s s') : Bt c s0 MU s' where
  kp := b.kp.trans x.toKp
  tabs := fun P f t => x.tabs (fun a => P a ∧ a ∉ MU) (fun a e => ⟨f a (b.kp.none e), fun q => by obtain ⟨ob, eo⟩ := b.live a q; rw [e] at eo; cases eo⟩) (b.tabs P f t)
  live := fun a h => let ⟨ob, e⟩ := b.live a h; x.live a ob e
theorem filter_succ (t : Nat → Bool) (f : Nat → AV) (i : Nat) : ((List.range (i + 1)).filter t).map f = ((List.range i).filter t).map f ++ (if t i then [f i] else []) := by
  rw [List.range_succ, List.filter_append, List.map_append]
  cases h : t i <;> simp [h]
theorem comp_core {c : Cx} (o : c.Ok) {elt target iter : Expr} {ifs : List Expr} {scope : Scope} {pos : Pos} {n : Nat} {bs : Nat → List (Str × AV)} {Tg : Env → List (Str × Addr) → (Addr → Prop) → Prop} {t : Nat → Bool} {f : Nat → AV}
    (hk : scope.kind = .function) (hnd : (scope.names.map Prod.fst).Nodup)
    (htg : ∀ C P', FOk (innerEnv c.env scope C) (ownOf scope C) P' → Tg (innerEnv c.env scope C) (ownOf scope C) P')
    (hb : ∀ C MU i, i < n → (∀ a ∈ (ownOf scope C).map (·.2), a ∉ Tb) → EvTs (c.inner scope C MU (bs i)) ifs (t i) ∧ (t i = true → EvE (c.inner scope C MU (bs i)) elt (f i)))
    {s0 s2 : Shared} {I : Addr} {fp wr : List Addr} {St : Nat → Heap → Prop} (h0 : c.Φ s0) (it : IterG c s0 s2 target I fp wr n St bs Tg) (hn : n ≤ 1000000) {RR : Value → Addr → Result → Shared → Prop} {E : Value → Shared → Prop}
    (hR : ∀ D C s' vs, s0.heap.get? D = none → s0.heap.get? C = none → D ≠ C → Ext c.G s0 s' → s'.heap.IsList D vs.toArray → VRs s'.heap s'.toks (fun a => c.P a ∧ a ≠ D ∧ a ≠ C) (((List.range n).filter t).map f) vs → (∃ m, s'.heap.Ns C m) → (∃ ob, s'.heap.get? D = some ob) →
      (∀ P : Addr → Prop, (∀ a, s0.heap.get? a = none → P a) → c.G.TO P s0.heap → c.G.TO (fun a => P a ∧ a ≠ D ∧ a ≠ C) s'.heap) → RR (.ref D) C (.ok .next) s') :
    wpAny c.M c.A (newList []) (fun acc s₃ => wpAny c.M c.A (newFunctionEnv scope c.env.globals (clOf c.env scope.names []) [] c.env.qual none .none (some c.env)) (fun cenv s₄ =>
      codeAny c.M c.A (.compStart (.ListComp elt [⟨target, iter, ifs, 0⟩] scope pos) 0 (.ref I) acc { cenv with scope := relabel scope c.env }) (RR acc cenv.locals) s₄) E s₃) E s2 := by
  refine wpAny_newObj_type (newEnv_cells ?_)
  generalize hH2 : s2.heap.push { cls := .type "list", dict := none, data := .seq ([] : List Value).toArray } = H2
  generalize hCC : H2.objs.size = C
  have hC : C = s2.heap.objs.size + 1 := by rw [← hCC, ← hH2, Heap.size_push]
  generalize hDD : s2.heap.objs.size = D at *
  show codeAny c.M c.A (.compStart (.ListComp elt [⟨target, iter, ifs, 0⟩] scope pos) 0 (.ref I) (.ref D) { scope := relabel scope c.env, locals := C, globals := c.env.globals, cells := cellsFrom (C + 1) scope.names (clOf c.env scope.names []), qual := c.env.qual, func := none, code := c.env.code, frame := c.env.frame, builtins := c.env.builtins }) (RR (.ref D) C)
    { s2 with heap := pushCells (H2.push { cls := .type "dict", data := .dict #[] }) scope.names }
  rw [cellsFrom_acc scope.names (C + 1) (clOf c.env scope.names [])]
  show codeAny c.M c.A (.compStart _ 0 (.ref I) (.ref D) (innerEnv c.env scope C)) (RR (.ref D) C) _
  generalize hH3 : pushCells (H2.push { cls := .type "dict", data := .dict #[] }) scope.names = H3
  have hsz3 : (H2.push { cls := .type "dict", data := .dict #[] }).objs.size = C + 1 := by rw [Heap.size_push, hCC]
  have ok := cellsFrom_ok scope.names (H2.push { cls := .type "dict", data := .dict #[] }) (C + 1) [] ⟨fun _ _ hm => (nomatch hm), List.Pairwise.nil⟩ (by rw [hsz3]; exact Nat.le_refl _)
  rw [hsz3, hH3] at ok
  have up2 : ∀ a ob, H2.get? a = some ob → H3.get? a = some ob := fun a ob e => by rw [← hH3]; exact pushCells_keeps _ _ _ _ (Heap.get?_push_of_some _ e)
  have up : ∀ a ob, s2.heap.get? a = some ob → H3.get? a = some ob := fun a ob e => up2 a ob (by rw [← hH2]; exact Heap.get?_push_of_some _ e)
  have eD : ∃ ob, H3.get? D = some ob := ⟨_, up2 D _ (by rw [← hH2, ← hDD]; exact Heap.get?_push_size _ rfl)⟩
  have lD : H3.IsList D ([] : List Value).toArray := by
    refine ⟨_, up2 D _ (by rw [← hH2, ← hDD]; exact Heap.get?_push_size _ rfl), rfl, 0, rfl⟩
  have nC : H3.Ns C (fun _ => none) := by
    have := Heap.Ns.new H2 (.type "dict")
    rw [hCC] at this
    exact this.at' fun ob e => by rw [← hH3]; exact pushCells_keeps _ _ _ _ e
  have hown : ∀ b ∈ (ownOf scope C).map (·.2), C + 1 ≤ b ∧ H3.IsCell b none := fun b hb' => by
    obtain ⟨⟨x, a⟩, hm, rfl⟩ := List.mem_map.mp hb'
    exact ⟨(ok.empty x a hm).2, (ok.empty x a hm).1⟩
  have newF : ∀ b ∈ FAd (innerEnv c.env scope C) (ownOf scope C), s2.heap.get? b = none := fun b hb' => by
    refine ge_none ?_
    rw [hDD]
    rcases List.mem_cons.mp hb' with e | hb'
    · have e' : @Eq Nat b C := e
      omega
    · have := (hown b hb').1; omega
  have newD : s2.heap.get? D = none := ge_none (by rw [hDD]; exact Nat.le_refl _)
  generalize hMU : wr ++ D :: FAd (innerEnv c.env scope C) (ownOf scope C) = MU
  have inMU : ∀ b, b ∈ MU ↔ b ∈ wr ∨ b = D ∨ b ∈ FAd (innerEnv c.env scope C) (ownOf scope C) := fun b => by rw [← hMU]; simp
  have new0 : ∀ b ∈ MU, s0.heap.get? b = none := fun b hb' => by
    rcases (inMU b).mp hb' with h | rfl | h
    · exact it.new b h
    · exact it.ext.none newD
    · exact it.ext.none (newF b h)
  have muT : ∀ b ∈ MU, b ∉ Tb := fun b hb' => o.pt b (o.fresh s0 b h0 (new0 b hb'))
  have F : FOk (innerEnv c.env scope C) (ownOf scope C) (fun a => c.P a ∧ a ∉ MU) := by
    refine ⟨hk, fun x a h => look_append_some h, fun p hp => lookup_pw (own_pw hnd) hp, fun x a h => inner_kind (own_cell hnd (mem_of_lookup h)), ok.apart, fun p hp e => ?_, fun b hb' => ⟨fun h => h.2 ((inMU b).mpr (.inr (.inr hb'))), muT b ((inMU b).mpr (.inr (.inr hb')))⟩⟩
    have := (hown p.2 (List.mem_map.mpr ⟨p, hp, rfl⟩)).1
    have e' : @Eq Nat p.2 C := e
    omega
  obtain ⟨D1, hD1, T⟩ := it.turns _ _ _ F (htg C _ F) (fun a h => ⟨h.1, fun q => h.2 ((inMU a).mpr (.inl q))⟩) (fun a ob h e => ⟨h.1, fun q => by
      rcases (inMU a).mp q with q | q | q
      · exact h.2 q
      · rw [q, newD] at e; cases e
      · rw [newF a q] at e; cases e⟩) (fun b hb' q => by
      obtain ⟨_, ob, e⟩ := it.fpP b hb'
      rw [newF b q] at e; cases e)
  have live3 : ∀ b ∈ MU, ∃ ob, H3.get? b = some ob := fun b hb' => by
    rcases (inMU b).mp hb' with h | rfl | h
    · obtain ⟨ob, e⟩ := T.live 0 _ it.st b h
      exact ⟨ob, up b ob e⟩
    · exact eD
    · rcases List.mem_cons.mp h with e' | h
      · obtain ⟨ob, _, _, e, _⟩ := nC
        have e2 : b = C := e'
        exact ⟨ob, e2 ▸ e⟩
      · obtain ⟨_, ob, e, _⟩ := hown b h; exact ⟨ob, e⟩
  have wrD : D ∉ wr := fun q => by obtain ⟨ob, e⟩ := T.live 0 _ it.st D q; rw [newD] at e; cases e
  have wrF : ∀ b ∈ FAd (innerEnv c.env scope C) (ownOf scope C), b ∉ wr := fun b h q => by obtain ⟨ob, e⟩ := T.live 0 _ it.st b q; rw [newF b h] at e; cases e
  have hDF : D ∉ FAd (innerEnv c.env scope C) (ownOf scope C) := fun q => by
    rcases List.mem_cons.mp q with e | q
    · have e' : @Eq Nat D C := e
      omega
    · have := (hown D q).1; omega
  have hDC : @Ne Nat D C := by omega
  have fpT : ∀ b ∈ fp, b ∉ Tb := fun b hb' => o.pt b (it.fpP b hb').1
  have fpMU : ∀ b ∈ fp, b ∉ FAd (innerEnv c.env scope C) (ownOf scope C) ∧ b ≠ D := fun b hb' => by
    obtain ⟨_, ob, e⟩ := it.fpP b hb'
    exact ⟨fun q => absurd e (by rw [newF b q]; exact nofun), fun q => absurd e (by rw [q, newD]; exact nofun)⟩
  have bt0 : Bt c s0 MU { s2 with heap := H3 } := by
    refine ⟨it.ext.toKp.trans (Kp.of (tk := s2.toks) up), fun P fr tt => ?_, live3⟩
    have h1 := it.tabs P fr tt
    have h2 : c.G.TO (fun a => P a ∧ a ∉ MU) s2.heap := o.g.tmono _ _ _ h1 fun a ob h e => ⟨h.1, fun q => by
      rcases (inMU a).mp q with q | q | q
      · exact h.2 q
      · rw [q, newD] at e; cases e
      · rw [newF a q] at e; cases e⟩
    exact o.g.tok _ _ _ h2 fun a ob _ e => up a ob e
  have loop : codeAny c.M c.A (.compLoop (.ListComp elt [⟨target, iter, ifs, 0⟩] scope pos) 0 (.ref I) (.ref D) (innerEnv c.env scope C)) (RR (.ref D) C) { s2 with heap := H3 } := by
    refine comp_loop (fun k s => ∃ i σ vs, k = n + 1 - i ∧ i ≤ n ∧ Bt c s0 MU s ∧ St i s.heap ∧ D1 s.heap s.toks ∧ Vars (innerEnv c.env scope C) (ownOf scope C) σ (fun a => c.P a ∧ a ∉ MU) s.heap s.toks ∧ s.heap.IsList D vs.toArray ∧
      VRs s.heap s.toks (fun a => c.P a ∧ a ∉ MU) (((List.range i).filter t).map f) vs) ?_ (n + 1)
      ⟨0, [], [], rfl, Nat.zero_le _, bt0, T.frame _ _ _ it.st fun b _ ob e => up b ob e, T.dk _ _ _ _ hD1 (fun b ob _ e => up b ob e) (Nat.le_refl _), ⟨⟨_, nC, fun x r e => nomatch e⟩, fun x a e => ⟨none, (hown a (List.mem_map.mpr ⟨_, mem_of_lookup e, rfl⟩)).2, fun r er => nomatch er⟩⟩, lD, .nil⟩
    rintro k s ⟨i, σ, vs, rfl, hi, B, st, d, V, hl, hv⟩ EE hEE
    by_cases hin : i = n
    · subst hin
      refine T.done s _ _ st fun h' tk hle keep => ?_
      have out : ∀ b ob, s0.heap.get? b = some ob → b ∉ wr := fun b ob e q => by rw [it.new b q] at e; cases e
      have x1 : Ext c.G s0 { s with heap := h', toks := tk } := by
        have hle' := Nat.le_trans B.kp.le hle
        obtain ⟨h1, tk1, e1⟩ := B.kp.same
        refine ⟨⟨⟨h', tk, by rw [e1]⟩, fun a ob n e => keep a ob (out a ob e) (B.kp.keep a ob n e), fun a ob e => ?_, hle'⟩, fun P fr tt => ?_⟩
        · obtain ⟨o', e'⟩ := B.kp.live a ob e
          exact ⟨o', keep a o' (out a ob e) e'⟩
        · refine o.g.tmono (fun a => P a ∧ a ∉ MU) _ _ (o.g.tok _ _ _ (B.tabs P fr tt) fun a ob h e => keep a ob ?_ e) fun a _ h _ => h.1
          exact h.elim (fun h q => h.2 ((inMU a).mpr (.inl q))) fun ht q => muT a ((inMU a).mpr (.inl q)) ht
      refine hR D C _ vs (new0 D ((inMU D).mpr (.inr (.inl rfl)))) (new0 C ((inMU C).mpr (.inr (.inr (.head _))))) hDC x1 (hl.at fun ob e => keep D ob wrD e) ?_ ?_ ?_ fun P fr tt => ?_
      · exact hv.mono (fun b ob pb e => keep b ob (fun q => pb.2 ((inMU b).mpr (.inl q))) e) (fun b h => ⟨h.1, fun q => h.2 ((inMU b).mpr (.inr (.inl q))), fun q => h.2 ((inMU b).mpr (.inr (.inr (q ▸ .head _))))⟩) hle
      · obtain ⟨m, hm, _⟩ := V.loc
        exact ⟨m, hm.at' fun ob e => keep C ob (wrF C (.head _)) e⟩
      · obtain ⟨ob, e⟩ := B.live D ((inMU D).mpr (.inr (.inl rfl)))
        exact ⟨ob, keep D ob wrD e⟩
      · refine o.g.tmono (fun a => P a ∧ a ∉ MU) _ _ (o.g.tok _ _ _ (B.tabs P fr tt) fun a ob h e => keep a ob ?_ e) fun b _ h _ => ⟨h.1, fun q => h.2 ((inMU b).mpr (.inr (.inl q))), fun q => h.2 ((inMU b).mpr (.inr (.inr (q ▸ .head _))))⟩
        exact h.elim (fun h q => h.2 ((inMU a).mpr (.inl q))) fun ht q => muT a ((inMU a).mpr (.inl q)) ht
    · have hlt : i < n := Nat.lt_of_le_of_ne hi hin
      refine T.item i s σ _ _ _ hlt st d V fun s' st' V' x1 => ?_
      have offK : ∀ b, b ∉ MU → b ∉ wr ++ FAd (innerEnv c.env scope C) (ownOf scope C) := fun b h q => h ((inMU b).mpr ((List.mem_append.mp q).imp_right .inr))
      have B' : Bt c s0 MU s' := B.up o muT new0 x1.same (fun a ob h e => x1.keep a ob (offK a h) e) (fun a h => let ⟨ob, e⟩ := B.live a h; x1.live a ob e) x1.le
      have d' : D1 s'.heap s'.toks := T.dk _ _ _ _ d (fun b ob pb e => x1.keep b ob (offK b pb.2) e) x1.le
      have hl' : s'.heap.IsList D vs.toArray := hl.at fun ob e => x1.keep D ob (fun q => (List.mem_append.mp q).elim wrD hDF) e
      have hv' := hv.mono (h' := s'.heap) (fun b ob pb e => x1.keep b ob (offK b pb.2) e) (fun b p => p) x1.le
      obtain ⟨htst, helt⟩ := hb C MU i hlt fun a ha => muT a ((inMU a).mpr (.inr (.inr (.tail _ ha))))
      have oi : (c.inner scope C MU (bs i)).Ok := inner_ok o F
      have ph : ∀ s1, Bt c s0 MU s1 → Vars (innerEnv c.env scope C) (ownOf scope C) (bs i ++ σ) (fun a => c.P a ∧ a ∉ MU) s1.heap s1.toks → (c.inner scope C MU (bs i)).Φ s1 := fun s1 B1 V1 => by
        have g0 := o.glob s0 h0
        have g1 : Glob c.G c.P s1 := g0.ext o.g (B1.ext o) fun a e => o.fresh s0 a h0 e
        exact ⟨⟨s0, h0, B1.ext o, new0⟩, ⟨g1.keep, B1.tabs c.P (fun a e => o.fresh s0 a h0 e) g0.tabs, g1.gens, g1.pos⟩, V1.sub fun x r e => look_append_some e, B1.live⟩
      refine htst oi s' _ _ (ph s' B' V') fun s3 x3 => ?_
      have kk : ∀ b ob, b ∉ Tb → s'.heap.get? b = some ob → s3.heap.get? b = some ob := fun b ob h e => x3.keep b ob h e
      have B3 : Bt c s0 MU s3 := B'.onE x3
      have V3 := V'.ext F (fun a pa => o.pt a pa.1) x3
      have st3 := T.frame _ _ _ st' fun b hb' ob e => x3.keep b ob (fpT b hb') e
      have d3 := T.dk _ _ _ _ d' (fun b ob pb e => x3.keep b ob (o.pt b pb.1) e) x3.le
      have hl3 : s3.heap.IsList D vs.toArray := hl'.at fun ob e => x3.keep D ob (muT D ((inMU D).mpr (.inr (.inl rfl)))) e
      have hv3 := hv'.mono (h' := s3.heap) (fun b ob pb e => x3.keep b ob (o.pt b pb.1) e) (fun b p => p) x3.le
      cases htt : t i with
      | false =>
        rw [if_neg (by decide)]
        refine ⟨n + 1 - (i + 1), by omega, i + 1, _, vs, rfl, hlt, B3, st3, d3, V3, hl3, ?_⟩
        rw [filter_succ, htt]
        simpa using hv3
      | true =>
        rw [if_pos rfl]
        refine helt htt oi s3 (ph s3 B3 V3) _ _ fun y s4 x4 y4 => ?_
        have B4 : Bt c s0 MU s4 := B3.onE x4
        have V4 := V3.ext F (fun a pa => o.pt a pa.1) x4
        have st4 := T.frame _ _ _ st3 fun b hb' ob e => x4.keep b ob (fpT b hb') e
        have d4 := T.dk _ _ _ _ d3 (fun b ob pb e => x4.keep b ob (o.pt b pb.1) e) x4.le
        have hl4 : s4.heap.IsList D vs.toArray := hl3.at fun ob e => x4.keep D ob (muT D ((inMU D).mpr (.inr (.inl rfl)))) e
        have hv4 := hv3.mono (h' := s4.heap) (fun b ob pb e => x4.keep b ob (o.pt b pb.1) e) (fun b p => p) x4.le
        have hys : vs.toArray.size ≤ sizeLine := by
          rw [List.size_toArray, ← hv4.length, List.length_map]
          have e2 : ((List.range i).filter t).length ≤ (List.range i).length := List.length_filter_le _ _
          rw [List.length_range] at e2
          exact Nat.le_trans e2 (Nat.le_trans hi (Nat.le_trans hn (by decide)))
        refine wpAny_list_append (hsz := hys) hl4 fun h5 hl5 hs5 => ?_
        have k5 : ∀ b ob, b ≠ D → s4.heap.get? b = some ob → h5.get? b = some ob := fun b ob h e => hs5.extBut b ob h e
        refine ⟨n + 1 - (i + 1), by omega, i + 1, _, vs ++ [y], rfl, hlt, B4.up o muT new0 ⟨h5, _, rfl⟩ (fun a ob h e => k5 a ob (fun q => h ((inMU a).mpr (.inr (.inl q)))) e) (fun a h => ?_) (Nat.le_refl _), T.frame _ _ _ st4 fun b hb' ob e => k5 b ob (fpMU b hb').2 e,
          T.dk _ _ _ _ d4 (fun b ob pb e => k5 b ob (fun q => pb.2 ((inMU b).mpr (.inr (.inl q)))) e) (Nat.le_refl _), V4.keep fun b ob hb' e => k5 b ob (hb'.elim (fun pb q => pb.2 ((inMU b).mpr (.inr (.inl q)))) fun h q => hDF (q ▸ h)) e, ?_, ?_⟩
        · by_cases q : a = D
          · obtain ⟨ob, e, _⟩ := hl5; exact ⟨ob, q ▸ e⟩
          · obtain ⟨ob, e⟩ := B4.live a h; exact ⟨ob, k5 a ob q e⟩
        · simpa using hl5
        · rw [filter_succ, htt]
          refine VRs.append (hv4.mono (fun b ob pb e => k5 b ob (fun q => pb.2 ((inMU b).mpr (.inr (.inl q)))) e) fun b p => p) ?_
          exact .cons (y4.mono (fun b ob pb e => k5 b ob (fun q => pb.2 ((inMU b).mpr (.inr (.inl q)))) e) fun b p => p) .nil
  exact codeAny_compStart_list loop (T.self 0 _ _ _ (T.frame _ _ _ it.st fun b _ ob e => up b ob e) loop)
structure CompOk (c : Cx) (elt target : Expr) (ifs : List Expr) (scope : Scope) (n : Nat) (bs : Nat → List (Str × AV)) (Tg : Env → List (Str × Addr) → (Addr → Prop) → Prop) (t : Nat → Bool) (f : Nat → AV) : Prop where
  hn : n ≤ 1000000
  hk : scope.kind = .function
  hnd : (scope.names.map Prod.fst).Nodup
  hfree : c.Ok → ∀ p ∈ scope.names, p.2 = .free → (c.env.cells.lookup p.1).isSome = true
  htg : ∀ C P', FOk (innerEnv c.env scope C) (ownOf scope C) P' → Tg (innerEnv c.env scope C) (ownOf scope C) P'
  hb : c.Ok → ∀ C MU i, i < n → (∀ a ∈ (ownOf scope C).map (·.2), a ∉ Tb) → EvTs (c.inner scope C MU (bs i)) ifs (t i) ∧ (t i = true → EvE (c.inner scope C MU (bs i)) elt (f i))
theorem CompOk.names {c elt target ifs scope n bs Tg t f} (k : CompOk c elt target ifs scope n bs Tg t f) : ∀ x ∈ scope.names, x.2 = .local → scope.names.lookup x.1 = some .local := fun x hx e => by
  have := lookup_pw (pw_of_nodup k.hnd) (show (x.1, x.2) ∈ scope.names from hx)
  rw [e] at this; exact this
theorem let_go {c : Cx} (o : c.Ok) {s s' : Shared} {C : Addr} {h' : Heap} (x : Ext c.G s s') (hC : s.heap.get? C = none) (hs' : Heap.SameBut C s'.heap h') (hT : C ∉ Tb) (tabs : ∀ P : Addr → Prop, (∀ a, s.heap.get? a = none → P a) → c.G.TO P s.heap → c.G.TO (fun a => P a ∧ a ≠ C) s'.heap) : Ext c.G s { s' with heap := h' } := by
  have hle := x.le
  obtain ⟨h1, tk1, e1⟩ := x.same
  have k1 : ∀ a ob, s.heap.get? a = some ob → ∀ ob', s'.heap.get? a = some ob' → h'.get? a = some ob' := fun a ob e ob' e' => hs'.extBut a ob' (fun q => by rw [q, hC] at e; cases e) e'
  refine ⟨⟨⟨h', s'.toks, by rw [e1]⟩, fun a ob n e => k1 a ob e ob (x.keep a ob n e), fun a ob e => ?_, hle⟩, fun P fr tt => ?_⟩
  · obtain ⟨o', e'⟩ := x.live a ob e
    exact ⟨o', k1 a ob e o' e'⟩
  · exact o.g.tmono (fun a => P a ∧ a ≠ C) P _ (o.g.tok _ _ _ (tabs P fr tt) fun a ob h e => hs'.extBut a ob (h.elim (·.2) fun ht q => hT (q ▸ ht)) e) fun a _ h _ => h.1
theorem comp_any {c : Cx} {elt target iter : Expr} {ifs : List Expr} {scope : Scope} {pos : Pos} {n : Nat} {bs : Nat → List (Str × AV)} {Tg : Env → List (Str × Addr) → (Addr → Prop) → Prop} {t : Nat → Bool} {f : Nat → AV}
    (hi : EvG c iter target n bs Tg) (k : CompOk c elt target ifs scope n bs Tg t f) (hs : ∀ x, foldedSetIterable iter c.env x = pure x) (o : c.Ok) {s : Shared} (h0 : c.Φ s) {Q : Value → Shared → Prop} {E : Value → Shared → Prop}
    (kk : ∀ D s' vs, s.heap.get? D = none → Ext c.G s s' → s'.heap.IsList D vs.toArray → VRs s'.heap s'.toks c.P (((List.range n).filter t).map f) vs → Q (.ref D) s') :
    wpAny c.M c.A (eval (.ListComp elt [⟨target, iter, ifs, 0⟩] scope pos) c.env) Q E s := by
  rw [eval_ListComp]
  refine wpAny_comprehension_free (use := none) rfl hs (closure_eq (k.hfree o)) k.hk k.names ?_
  refine hi o s _ _ h0 fun I fp wr St s2 it => ?_
  refine comp_core (RR := fun acc C => compPost c.M c.A E none Q acc C) o k.hk k.hnd k.htg (k.hb o) h0 it k.hn ?_
  rintro D C s' vs hD hC hDC x hl hv ⟨m, hm⟩ hDo htab
  refine ⟨m, hm, fun h' hs' => ?_⟩
  have x2 : Ext c.G s { s' with heap := h' } := let_go o x hC hs' (o.pt C (o.fresh s C h0 hC)) fun P fr tt => o.g.tmono _ _ _ (htab P fr tt) fun a _ h _ => ⟨h.1, h.2.2⟩
  exact kk D _ vs hD x2 (hl.extBut hs'.extBut hDC) (hv.mono (fun b ob pb e => hs'.extBut b ob pb.2.2 e) fun b p => p.1)
theorem EvE.comp {c : Cx} {elt target iter : Expr} {ifs : List Expr} {scope : Scope} {pos : Pos} {n : Nat} {bs : Nat → List (Str × AV)} {Tg : Env → List (Str × Addr) → (Addr → Prop) → Prop} {t : Nat → Bool} {f : Nat → AV}
    (hi : EvG c iter target n bs Tg) (k : CompOk c elt target ifs scope n bs Tg t f) (hs : ∀ x, foldedSetIterable iter c.env x = pure x := by intro _; rfl) :
    EvE c (.ListComp elt [⟨target, iter, ifs, 0⟩] scope pos) (.list (((List.range n).filter t).map f)) := fun o s h0 Q E kk =>
  comp_any hi k hs o h0 fun D s' vs hD x hl hv => kk _ _ x (.list (o.fresh s D h0 hD) hl hv)
theorem EvF.comp {c : Cx} {elt target iter : Expr} {ifs : List Expr} {scope : Scope} {pos : Pos} {n : Nat} {bs : Nat → List (Str × AV)} {Tg : Env → List (Str × Addr) → (Addr → Prop) → Prop} {t : Nat → Bool} {f : Nat → AV}
    (hi : EvG c iter target n bs Tg) (k : CompOk c elt target ifs scope n bs Tg t f) (ha : (((List.range n).filter t).map f).all AV.atom = true) (hs : ∀ x, foldedSetIterable iter c.env x = pure x := by intro _; rfl) :
    EvF c (.ListComp elt [⟨target, iter, ifs, 0⟩] scope pos) (.list (((List.range n).filter t).map f)) := fun o s Q E h0 kk =>
  comp_any hi k hs o h0 fun D s' vs hD x hl hv => kk _ _ x (.list hD hl (hv.atoms ha))
theorem VR.up {h h' : Heap} {τ τ' : Nat} {P P' : Addr → Prop} {x v} (r : VR h τ P x v) (hk : ∀ a o, P a → h.get? a = some o → h'.get? a = some o) (hp : ∀ a o, P a → h.get? a = some o → P' a) (ht : τ ≤ τ' := by exact Nat.le_refl _) : VR h' τ' P' x v :=
  r.mv (fun a o p e => ⟨hk a o p e, hp a o p e⟩) ht
theorem VRs.up {h h' : Heap} {τ τ' : Nat} {P P' : Addr → Prop} {x v} (r : VRs h τ P x v) (hk : ∀ a o, P a → h.get? a = some o → h'.get? a = some o) (hp : ∀ a o, P a → h.get? a = some o → P' a) (ht : τ ≤ τ' := by exact Nat.le_refl _) : VRs h' τ' P' x v :=
  r.mv (fun a o p e => ⟨hk a o p e, hp a o p e⟩) ht
theorem Vars.up {env own σ} {P P' : Addr → Prop} {h h' : Heap} {τ τ' : Nat} (V : Vars env own σ P h τ) (hk : ∀ b o, P b ∨ b ∈ FAd env own → h.get? b = some o → h'.get? b = some o) (hp : ∀ a o, P a → h.get? a = some o → P' a) (ht : τ ≤ τ' := by exact Nat.le_refl _) : Vars env own σ P' h' τ' := by
  obtain ⟨⟨m, hn, hm⟩, hc⟩ := V
  refine ⟨⟨m, hn.at' fun o e => hk _ o (.inr (.head _)) e, fun x r e k => ?_⟩, fun x a e => ?_⟩
  · obtain ⟨v, h1, h2⟩ := hm x r e k
    exact ⟨v, h1, h2.up (fun b o pb e => hk b o (.inl pb) e) hp ht⟩
  · obtain ⟨ov, ⟨o, ho, hd⟩, h2⟩ := hc x a e
    refine ⟨ov, ⟨o, hk a o (.inr (.tail _ (List.mem_map.mpr ⟨(x, a), mem_of_lookup e, rfl⟩))) ho, hd⟩, fun r er => ?_⟩
    obtain ⟨v, h3, h4⟩ := h2 r er
    exact ⟨v, h3, h4.up (fun b o pb e => hk b o (.inl pb) e) hp ht⟩
structure Item where
  ad : List Addr
  pr : (Addr → Prop) → Heap → Nat → Prop
  fr : ∀ (P P' : Addr → Prop) (h h' : Heap) (τ τ' : Nat), pr P h τ → (∀ b o, P b ∨ b ∈ ad → h.get? b = some o → h'.get? b = some o) → (∀ b o, P b → h.get? b = some o → P' b) → τ ≤ τ' → pr P' h' τ'
  lv : ∀ P h τ, pr P h τ → ∀ b ∈ ad, ∃ o, h.get? b = some o
noncomputable def Item.list (a : Addr) (xs : List AV) : Item where
  ad := [a]
  pr := fun P h τ => ∃ vs, h.IsList a vs.toArray ∧ VRs h τ P xs vs
  fr := fun P P' h h' τ τ' hh hk hp ht => by
    obtain ⟨vs, hl, hv⟩ := hh
    exact ⟨vs, hl.at fun o e => hk a o (.inr (.head _)) e, hv.up (fun b o pb e => hk b o (.inl pb) e) hp ht⟩
  lv := fun P h τ hh b hb => by
    obtain ⟨vs, ⟨o, e, _⟩, _⟩ := hh
    exact ⟨o, List.mem_singleton.mp hb ▸ e⟩
noncomputable def Item.iter (wr fp : List Addr) (St : Heap → Prop) (D : Heap → Nat → Prop) (P' : Addr → Prop) (hw : ∀ b ∈ wr, b ∈ fp) (hlv : ∀ h, St h → ∀ b ∈ wr, ∃ o, h.get? b = some o) (hfr : ∀ h h', St h → (∀ b ∈ fp, ∀ o, h.get? b = some o → h'.get? b = some o) → St h') : Item where
  ad := wr
  pr := fun P h τ => St h ∧ (∀ b ∈ fp, b ∈ wr ∨ (P b ∧ ∃ o, h.get? b = some o)) ∧ ∃ h0 τ0, τ0 ≤ τ ∧ D h0 τ0 ∧ ∀ b o, P' b → h0.get? b = some o → P b ∧ h.get? b = some o
  fr := fun P Q h h' τ τ' ⟨st, hf, h0, τ0, t0, d, k0⟩ hk hp ht => by
    have k1 : ∀ b ∈ fp, ∀ o, h.get? b = some o → h'.get? b = some o := fun b hb o e => hk b o ((hf b hb).elim .inr fun p => .inl p.1) e
    refine ⟨hfr h h' st k1, fun b hb => (hf b hb).imp_right fun ⟨pb, o, e⟩ => ⟨hp b o pb e, o, k1 b hb o e⟩, h0, τ0, Nat.le_trans t0 ht, d, fun b o pb e => ?_⟩
    obtain ⟨p1, e1⟩ := k0 b o pb e
    exact ⟨hp b o p1 e1, hk b o (.inl p1) e1⟩
  lv := fun P h τ ⟨st, _⟩ b hb => hlv h st b hb
structure FC where
  G : G0
  A : Around
  env : Env
  own : List (Str × Addr)
  O : List Addr
noncomputable def NT (a : Addr) : Prop := a ∉ Tb
noncomputable def MUs (fc : FC) (β : List Item) : List Addr := FAd fc.env fc.own ++ β.flatMap Item.ad
noncomputable def PF (fc : FC) (β : List Item) (a : Addr) : Prop := a ∉ Tb ∧ a ∉ MUs fc β
noncomputable def Rm (A : Around) (k : Nat) : Prop := A.handled = none ∧ A.depth + 30 + k < recursionLimit ∧ A.units + 400 + 3 * k < cLine
structure FC.Ok (fc : FC) : Prop where
  g : fc.G.Ok
  rm : Rm fc.A 0
  F : FOk fc.env fc.own (PF fc [])
  eg : fc.env.globals = mainGlobals
  eb : fc.env.builtins = builtinsNs
  ot : ∀ a ∈ fc.O, a ∉ Tb ∧ fc.G.g.get? a = none
structure FS (fc : FC) (s0 : Shared) (σ : List (Str × AV)) (β : List Item) (s : Shared) : Prop where
  kp : Kp (Tb ++ fc.O) s0 s
  tabs : ∀ P : Addr → Prop, (∀ a, s0.heap.get? a = none → P a) → fc.G.TO P s0.heap → fc.G.TO (fun a => P a ∧ a ∉ MUs fc β) s.heap
  live : ∀ a ∈ MUs fc β, ∃ o, s.heap.get? a = some o
  new : ∀ a ∈ MUs fc β, a ∈ fc.O ∨ s0.heap.get? a = none
  gl0 : Glob fc.G NT s0
  vars : Vars fc.env fc.own σ (PF fc β) s.heap s.toks
  box : ∀ i ∈ β, i.pr (PF fc β) s.heap s.toks
  sep : β.Pairwise fun i j => ∀ b ∈ i.ad, b ∉ j.ad
  offF : ∀ i ∈ β, ∀ b ∈ i.ad, b ∉ FAd fc.env fc.own
section
variable {fc : FC} {s0 s s' : Shared} {σ : List (Str × AV)} {β : List Item}
theorem nt0 (W : fc.Ok) (h : FS fc s0 σ β s) (a : Addr) (e : s0.heap.get? a = none) : NT a := fun q => by
  obtain ⟨ob, eo⟩ := W.g.tlive _ _ h.gl0.tabs a q
  rw [e] at eo; cases eo
theorem FS.to (W : fc.Ok) (h : FS fc s0 σ β s) : fc.G.TO (fun a => NT a ∧ a ∉ MUs fc β) s.heap := h.tabs NT (fun a e => nt0 W h a e) h.gl0.tabs
theorem FS.fresh (W : fc.Ok) (h : FS fc s0 σ β s) {a : Addr} (e : s.heap.get? a = none) : PF fc β a := by
  refine ⟨fun q => ?_, fun q => ?_⟩
  · obtain ⟨ob, eo⟩ := W.g.tlive _ _ (h.to W) a q
    rw [e] at eo; cases eo
  · obtain ⟨ob, eo⟩ := h.live a q
    rw [e] at eo; cases eo
theorem FOk.sub {env own} {P P' : Addr → Prop} (F : FOk env own P) (h : ∀ a, P' a → P a) : FOk env own P' := ⟨F.kind, F.cells, F.lk, F.ck, F.nd, F.nl, fun b hb => ⟨fun p => (F.off b hb).1 (h b p), (F.off b hb).2⟩⟩
theorem PF.base {a : Addr} (h : PF fc β a) : PF fc [] a := ⟨h.1, fun q => h.2 (List.mem_append_left _ (by simpa [MUs] using q))⟩
theorem FC.Ok.Fb (W : fc.Ok) : FOk fc.env fc.own (PF fc β) := W.F.sub fun a h => h.base
theorem FS.mut (W : fc.Ok) (h : FS fc s0 σ β s) {a : Addr} (ha : a ∈ MUs fc β) : a ∉ Tb := (h.new a ha).elim (fun q => (W.ot a q).1) fun q => nt0 W h a q
theorem FS.ext (W : fc.Ok) (h : FS fc s0 σ β s) (x : Ext fc.G s s') : FS fc s0 σ β s' where
  kp := h.kp.trans (x.toKp.mono fun a q => List.mem_append_left _ q)
  tabs := fun P f t => x.tabs (fun a => P a ∧ a ∉ MUs fc β) (fun a e => ⟨f a (h.kp.none e), fun q => by obtain ⟨ob, eo⟩ := h.live a q; rw [e] at eo; cases eo⟩) (h.tabs P f t)
  live := fun a ha => let ⟨ob, e⟩ := h.live a ha; x.live a ob e
  new := h.new
  gl0 := h.gl0
  vars := h.vars.ext W.Fb (fun a p => p.1) x
  box := fun i hi => i.fr _ _ _ _ _ _ (h.box i hi) (fun b o hb e => x.keep b o (hb.elim (·.1) fun q => h.mut W (List.mem_append_right _ (List.mem_flatMap.mpr ⟨i, hi, q⟩))) e) (fun b o p _ => p) x.le
  sep := h.sep
  offF := h.offF
theorem FS.glob (W : fc.Ok) (h : FS fc s0 σ β s) : Glob fc.G (PF fc β) s where
  keep := fun a ob e => h.kp.keep a ob (fun q => (List.mem_append.mp q).elim (fun q => by rw [W.g.hide a q] at e; cases e) fun q => by rw [(W.ot a q).2] at e; cases e) (h.gl0.keep a ob e)
  tabs := W.g.tmono _ _ _ (h.to W) fun a _ p _ => p
  gens := by obtain ⟨hh, tk, rfl⟩ := h.kp.same; exact h.gl0.gens
  pos := Nat.lt_of_lt_of_le h.gl0.pos h.kp.le
theorem Glob.wk {G : G0} {P P' : Addr → Prop} (o : G.Ok) (h : Glob G P s) (k : ∀ a, P a → P' a) : Glob G P' s := ⟨h.keep, o.tmono _ _ _ h.tabs fun a _ p _ => k a p, h.gens, h.pos⟩
end
noncomputable def cx (fc : FC) (s0 : Shared) (σ : List (Str × AV)) (β : List Item) : Cx := ⟨fc.G, fc.A, fc.env, FS fc s0 σ β, PF fc []⟩
noncomputable def cs (fc : FC) (s0 : Shared) (σ : List (Str × AV)) (β : List Item) : Cx := ⟨fc.G, fc.A, fc.env, FS fc s0 σ β, PF fc β⟩
section
variable {fc : FC} {s0 : Shared} {σ : List (Str × AV)} {β : List Item}
theorem cs_ok (W : fc.Ok) : (cs fc s0 σ β).Ok where
  g := W.g
  glob := fun s h => h.glob W
  stab := fun s s' h x => h.ext W x
  fresh := fun s a h e => h.fresh W e
  pt := fun a h => h.1
  hd := W.rm.1
  room := W.rm.2.1
  units := W.rm.2.2
  kind := W.F.kind
  eg := W.eg
  eb := W.eb
theorem cx_ok (W : fc.Ok) : (cx fc s0 σ β).Ok where
  g := W.g
  glob := fun s h => (h.glob W).wk W.g fun a p => p.base
  stab := fun s s' h x => h.ext W x
  fresh := fun s a h e => (h.fresh W e).base
  pt := fun a h => h.1
  hd := W.rm.1
  room := W.rm.2.1
  units := W.rm.2.2
  kind := W.F.kind
  eg := W.eg
  eb := W.eb
theorem Has.loc {x r} (hv : σ.lookup x = some r) (hk : fc.env.kindOf x = some .local) : Has (cs fc s0 σ β) x r := fun o s hs => by
  obtain ⟨m, hn, hm⟩ := hs.vars.loc
  obtain ⟨v, h1, h2⟩ := hm x r hv hk
  exact ⟨v, h2, fun Q E q => wpAny_loadName_local o.kind hk hn h1 q⟩
theorem CellHas.cel (W : fc.Ok) {x r} (hv : σ.lookup x = some r) (hk : ∃ a, fc.own.lookup x = some a) : CellHas (cs fc s0 σ β) x r := fun o => by
  obtain ⟨a, ha⟩ := hk
  refine ⟨a, W.F.cells x a ha, (W.F.off a (.tail _ (List.mem_map.mpr ⟨_, mem_of_lookup ha, rfl⟩))).2, fun s hs => ?_⟩
  obtain ⟨ov, hc, h2⟩ := hs.vars.cel x a ha
  obtain ⟨v, rfl, y⟩ := h2 r hv
  exact ⟨v, hc, y⟩
theorem Has.cel (W : fc.Ok) {x r} (hv : σ.lookup x = some r) (hk : ∃ a, fc.own.lookup x = some a) : Has (cs fc s0 σ β) x r := fun o s hs => by
  obtain ⟨a, ha⟩ := hk
  obtain ⟨ov, hc, h2⟩ := hs.vars.cel x a ha
  obtain ⟨v, rfl, y⟩ := h2 r hv
  exact ⟨v, y, fun Q E q => wpAny_loadName_cell o.kind (W.F.ck x a ha) (W.F.cells x a ha) hc q⟩
theorem Has.big {x r} (h : Has (cs fc s0 σ β) x r) (W : fc.Ok) : Has (cx fc s0 σ β) x r := fun o s hs => by
  obtain ⟨v, y, k⟩ := h (cs_ok W) s hs
  exact ⟨v, y.mono (fun _ _ _ e => e) fun a p => p.base, k⟩
theorem CellHas.big {x r} (h : CellHas (cs fc s0 σ β) x r) (W : fc.Ok) : CellHas (cx fc s0 σ β) x r := fun o => by
  obtain ⟨a, h1, h2, k⟩ := h (cs_ok W)
  refine ⟨a, h1, h2, fun s hs => ?_⟩
  obtain ⟨v, hc, y⟩ := k s hs
  exact ⟨v, hc, y.mono (fun _ _ _ e => e) fun a p => p.base⟩
theorem box_vr {s} (W : fc.Ok) (hs : FS fc s0 σ β s) {a : Addr} {xs : List AV} (hb : Item.list a xs ∈ β) : VR s.heap s.toks (PF fc []) (.list xs) (.ref a) := by
  obtain ⟨vs, hl, hv⟩ := hs.box _ hb
  refine .list ⟨hs.mut W (List.mem_append_right _ (List.mem_flatMap.mpr ⟨_, hb, .head _⟩)), fun q => hs.offF _ hb a (.head _) (by simpa [MUs] using q)⟩ hl (hv.mono (fun _ _ _ e => e) fun a p => p.base)
theorem Has.box (W : fc.Ok) {x} {a : Addr} {xs : List AV} (h : Has (cs fc s0 σ β) x (.raw (.ref a))) (hb : Item.list a xs ∈ β) : Has (cx fc s0 σ β) x (.list xs) := fun o s hs => by
  obtain ⟨v, y, k⟩ := h (cs_ok W) s hs
  (first | ((first | replace y := VR.intI y | replace y := VR.strI y); obtain ⟨_, rfl⟩ := y) | ((first | replace y := VR.rawI y | replace y := VRs.nilI y | replace y := VR.boolI y | replace y := VR.noneI y); subst y) | cases y)
  exact ⟨.ref a, box_vr W hs hb, k⟩
theorem CellHas.box (W : fc.Ok) {x} {a : Addr} {xs : List AV} (h : CellHas (cs fc s0 σ β) x (.raw (.ref a))) (hb : Item.list a xs ∈ β) : CellHas (cx fc s0 σ β) x (.list xs) := fun o => by
  obtain ⟨b, h1, h2, k⟩ := h (cs_ok W)
  refine ⟨b, h1, h2, fun s hs => ?_⟩
  obtain ⟨v, hc, y⟩ := k s hs
  (first | ((first | replace y := VR.intI y | replace y := VR.strI y); obtain ⟨_, rfl⟩ := y) | ((first | replace y := VR.rawI y | replace y := VRs.nilI y | replace y := VR.boolI y | replace y := VR.noneI y); subst y) | cases y)
  exact ⟨.ref a, hc, box_vr W hs hb⟩
end
section
variable {fc : FC} {s0 s s' : Shared} {σ σ' : List (Str × AV)} {β : List Item}
theorem mem_MUs {b : Addr} : b ∈ MUs fc β ↔ b ∈ FAd fc.env fc.own ∨ ∃ i ∈ β, b ∈ i.ad := by unfold MUs; simp
theorem mem_MUs_cons {i : Item} {b : Addr} : b ∈ MUs fc (i :: β) ↔ b ∈ MUs fc β ∨ b ∈ i.ad := by
  rw [mem_MUs, mem_MUs]
  constructor
  · rintro (h | ⟨j, hj, hb⟩)
    · exact .inl (.inl h)
    · rcases List.mem_cons.mp hj with rfl | hj
      · exact .inr hb
      · exact .inl (.inr ⟨j, hj, hb⟩)
  · rintro ((h | ⟨j, hj, hb⟩) | hb)
    · exact .inl h
    · exact .inr ⟨j, .tail _ hj, hb⟩
    · exact .inr ⟨i, .head _, hb⟩
theorem PF_cons {i : Item} {a : Addr} : PF fc (i :: β) a ↔ PF fc β a ∧ a ∉ i.ad := by
  unfold PF
  rw [mem_MUs_cons]
  exact ⟨fun h => ⟨⟨h.1, fun q => h.2 (.inl q)⟩, fun q => h.2 (.inr q)⟩, fun h => ⟨h.1.1, fun q => q.elim h.1.2 h.2⟩⟩
theorem FS.chg (W : fc.Ok) (h : FS fc s0 σ β s) (x : Kp (FAd fc.env fc.own) s s') (V : Vars fc.env fc.own σ' (PF fc β) s'.heap s'.toks) : FS fc s0 σ' β s' where
  kp := by
    have le' := Nat.le_trans h.kp.le x.le
    obtain ⟨hh, tk, e1⟩ := h.kp.same
    obtain ⟨h', tk', e2⟩ := x.same
    have out : ∀ a ob, a ∉ Tb ++ fc.O → s0.heap.get? a = some ob → a ∉ FAd fc.env fc.own := fun a ob n e q => (h.new a (mem_MUs.mpr (.inl q))).elim (fun o => n (List.mem_append_right _ o)) fun q => by rw [q] at e; cases e
    refine ⟨⟨h', tk', by rw [e2, e1]⟩, fun a ob n e => x.keep a ob (out a ob n e) (h.kp.keep a ob n e), fun a ob e => ?_, le'⟩
    obtain ⟨o1, e1⟩ := h.kp.live a ob e
    exact x.live a o1 e1
  tabs := fun P f t => W.g.tok _ _ _ (h.tabs P f t) fun a ob hp e => x.keep a ob (fun q => hp.elim (fun p => p.2 (mem_MUs.mpr (.inl q))) fun t => h.mut W (mem_MUs.mpr (.inl q)) t) e
  live := fun a ha => let ⟨ob, e⟩ := h.live a ha; x.live a ob e
  new := h.new
  gl0 := h.gl0
  vars := V
  box := fun i hi => i.fr _ _ _ _ _ _ (h.box i hi) (fun b o hb e => x.keep b o (fun q => hb.elim (fun p => p.2 (mem_MUs.mpr (.inl q))) fun p => h.offF i hi b p q) e) (fun b o p _ => p) x.le
  sep := h.sep
  offF := h.offF
theorem FS.store (W : fc.Ok) (h : FS fc s0 σ β s) {x : Str} {r : AV} {v : Value} (hx : Kd fc.env fc.own x) (hv : VR s.heap s.toks (PF fc β) r v) {M : Model} {A : Around} {Q : Unit → Shared → Prop} {E : Value → Shared → Prop}
    (k : ∀ s', FS fc s0 ((x, r) :: σ) β s' → Q () s') : wpAny M A (storeName fc.env x v) Q E s :=
  h.vars.store W.Fb hx hv fun s' V x => k s' (h.chg W x V)
theorem FS.add (W : fc.Ok) (h : FS fc s0 σ β s) (i : Item) (hn : ∀ b ∈ i.ad, s.heap.get? b = none) (x : Ext fc.G s s') (hp : i.pr (PF fc (i :: β)) s'.heap s'.toks)
    (ht : ∀ P : Addr → Prop, (∀ a, s0.heap.get? a = none → P a) → fc.G.TO P s0.heap → fc.G.TO (fun a => (P a ∧ a ∉ MUs fc β) ∧ a ∉ i.ad) s'.heap) : FS fc s0 σ (i :: β) s' := by
  have h1 := h.ext W x
  have old : ∀ b ob, s.heap.get? b = some ob → b ∉ i.ad := fun b ob e q => by rw [hn b q] at e; cases e
  have pp : ∀ b o, PF fc β b → s.heap.get? b = some o → PF fc (i :: β) b := fun b o p e => PF_cons.mpr ⟨p, old b o e⟩
  refine ⟨h1.kp, fun P f t => ?_, fun a ha => ?_, fun a ha => ?_, h.gl0, ?_, fun j hj => ?_, ?_, ?_⟩
  · exact W.g.tmono _ _ _ (ht P f t) fun a _ p _ => ⟨p.1.1, fun q => (mem_MUs_cons.mp q).elim p.1.2 p.2⟩
  · rcases mem_MUs_cons.mp ha with q | q
    · exact h1.live a q
    · exact i.lv _ _ _ hp a q
  · rcases mem_MUs_cons.mp ha with q | q
    · exact h.new a q
    · exact .inr (h.kp.none (hn a q))
  · exact h.vars.up (fun b o hb e => x.keep b o (hb.elim (·.1) fun q => h.mut W (mem_MUs.mpr (.inl q))) e) pp x.le
  · rcases List.mem_cons.mp hj with rfl | hj
    · exact hp
    · exact j.fr _ _ _ _ _ _ (h.box j hj) (fun b o hb e => x.keep b o (hb.elim (·.1) fun q => h.mut W (mem_MUs.mpr (.inr ⟨j, hj, q⟩))) e) pp x.le
  · refine List.pairwise_cons.mpr ⟨fun j hj b hb q => ?_, h.sep⟩
    obtain ⟨ob, e⟩ := h.live b (mem_MUs.mpr (.inr ⟨j, hj, q⟩))
    exact old b ob e hb
  · intro j hj b hb q
    rcases List.mem_cons.mp hj with rfl | hj
    · obtain ⟨ob, e⟩ := h.live b (mem_MUs.mpr (.inl q))
      exact old b ob e hb
    · exact h.offF j hj b hb q
theorem FS.addList (W : fc.Ok) (h : FS fc s0 σ β s) {a : Addr} {xs : List AV} {vs : List Value} (hn : s.heap.get? a = none) (x : Ext fc.G s s') (hl : s'.heap.IsList a vs.toArray) (hv : VRs s'.heap s'.toks (fun b => PF fc β b ∧ b ≠ a) xs vs) : FS fc s0 σ (Item.list a xs :: β) s' := by
  have h1 := h.ext W x
  refine h.add W (Item.list a xs) (fun b hb => List.mem_singleton.mp hb ▸ hn) x ⟨vs, hl, hv.mono (fun _ _ _ e => e) fun b p => PF_cons.mpr ⟨p.1, fun q => p.2 (List.mem_singleton.mp q)⟩⟩ fun P f t => ?_
  obtain ⟨ob, e, hc, ne, hd⟩ := hl
  refine W.g.tmono _ _ _ (W.g.tsep _ _ a ob (h1.tabs P f t) e fun us q => ?_) fun b _ p _ => ⟨p.1, fun q => p.2 (List.mem_singleton.mp q)⟩
  rw [hd] at q; cases q
theorem FS.drop (W : fc.Ok) {i : Item} (h : FS fc s0 σ (i :: β) s) : FS fc s0 σ β s where
  kp := h.kp
  tabs := fun P f t => W.g.tmono _ _ _ (h.tabs P f t) fun a _ p _ => ⟨p.1, fun q => p.2 (mem_MUs_cons.mpr (.inl q))⟩
  live := fun a ha => h.live a (mem_MUs_cons.mpr (.inl ha))
  new := fun a ha => h.new a (mem_MUs_cons.mpr (.inl ha))
  gl0 := h.gl0
  vars := h.vars.up (fun _ _ _ e => e) fun a _ p _ => (PF_cons.mp p).1
  box := fun j hj => j.fr _ _ _ _ _ _ (h.box j (.tail _ hj)) (fun _ _ _ e => e) (fun a _ p _ => (PF_cons.mp p).1) (Nat.le_refl _)
  sep := (List.pairwise_cons.mp h.sep).2
  offF := fun j hj => h.offF j (.tail _ hj)
theorem FS.sub (h : FS fc s0 σ β s) (k : ∀ p ∈ σ', σ.lookup p.1 = some p.2) : FS fc s0 σ' β s := ⟨h.kp, h.tabs, h.live, h.new, h.gl0, h.vars.sub fun x r e => k (x, r) (mem_of_lookup e), h.box, h.sep, h.offF⟩
theorem MUs_swap {i j : Item} {l r : List Item} (e : i.ad = j.ad) : MUs fc (l ++ i :: r) = MUs fc (l ++ j :: r) := by unfold MUs; simp [e]
theorem PF_swap {i j : Item} {l r : List Item} (e : i.ad = j.ad) : PF fc (l ++ i :: r) = PF fc (l ++ j :: r) := by unfold PF; rw [MUs_swap e]
theorem FS.set (W : fc.Ok) {l r : List Item} {i j : Item} (h : FS fc s0 σ (l ++ i :: r) s) (e : i.ad = j.ad) (same : ∃ hh tk, s' = { s with heap := hh, toks := tk }) (keep : ∀ a ob, a ∉ i.ad → s.heap.get? a = some ob → s'.heap.get? a = some ob) (hp : j.pr (PF fc (l ++ i :: r)) s'.heap s'.toks) (hle : s.toks ≤ s'.toks := by exact Nat.le_refl _) : FS fc s0 σ (l ++ j :: r) s' := by
  have im : i ∈ l ++ i :: r := List.mem_append_right _ (.head _)
  have inM : ∀ b ∈ i.ad, b ∈ MUs fc (l ++ i :: r) := fun b hb => mem_MUs.mpr (.inr ⟨i, im, hb⟩)
  have pw := h.sep
  have oth : ∀ k, k ∈ l ∨ k ∈ r → ∀ b ∈ k.ad, b ∉ i.ad := by
    rintro k (hk | hk) b hb q
    · exact (List.pairwise_append.mp pw).2.2 k hk i (.head _) b hb q
    · exact (List.pairwise_cons.mp (List.pairwise_append.mp pw).2.1).1 k hk b q hb
  have hlv : ∀ b ∈ i.ad, ∃ o, s'.heap.get? b = some o := fun b hb => j.lv _ _ _ hp b (e ▸ hb)
  have pf := PF_swap (fc := fc) (l := l) (r := r) e
  have mu := MUs_swap (fc := fc) (l := l) (r := r) e
  refine ⟨?_, fun P f t => ?_, fun a ha => ?_, fun a ha => h.new a (mu ▸ ha), h.gl0, ?_, fun k hk => ?_, ?_, ?_⟩
  · have le' := Nat.le_trans h.kp.le hle
    obtain ⟨h1, tk1, e1⟩ := h.kp.same
    obtain ⟨h2, tk2, e2⟩ := same
    have out : ∀ a ob, a ∉ Tb ++ fc.O → s0.heap.get? a = some ob → a ∉ i.ad := fun a ob n e q => (h.new a (inM a q)).elim (fun o => n (List.mem_append_right _ o)) fun q => by rw [q] at e; cases e
    refine ⟨⟨h2, tk2, by rw [e2, e1]⟩, fun a ob n e => keep a ob (out a ob n e) (h.kp.keep a ob n e), fun a ob e => ?_, le'⟩
    obtain ⟨o1, e1⟩ := h.kp.live a ob e
    by_cases q : a ∈ i.ad
    · exact hlv a q
    · exact ⟨o1, keep a o1 q e1⟩
  · rw [← mu]
    exact W.g.tok _ _ _ (h.tabs P f t) fun a ob hp e => keep a ob (fun q => hp.elim (fun p => p.2 (inM a q)) fun t => h.mut W (inM a q) t) e
  · rw [← mu] at ha
    by_cases q : a ∈ i.ad
    · exact hlv a q
    · obtain ⟨ob, e⟩ := h.live a ha
      exact ⟨ob, keep a ob q e⟩
  · rw [← pf]
    exact h.vars.keep (fun b o hb e => keep b o (fun q => hb.elim (fun p => p.2 (inM b q)) fun p => h.offF i im b q p) e) hle
  · rw [← pf]
    have go : k ∈ l ∨ k ∈ r → k.pr (PF fc (l ++ i :: r)) s'.heap s'.toks := fun hk => by
      refine k.fr _ _ _ _ _ _ (h.box k (hk.elim (List.mem_append_left _) fun q => List.mem_append_right _ (.tail _ q))) (fun b o hb e => keep b o (fun q => hb.elim (fun p => p.2 (inM b q)) fun p => oth k hk b p q) e) (fun b o p _ => p) hle
    rcases List.mem_append.mp hk with hk | hk
    · exact go (.inl hk)
    · rcases List.mem_cons.mp hk with rfl | hk
      · exact hp
      · exact go (.inr hk)
  · obtain ⟨p1, p2, p3⟩ := List.pairwise_append.mp pw
    obtain ⟨p4, p5⟩ := List.pairwise_cons.mp p2
    refine List.pairwise_append.mpr ⟨p1, List.pairwise_cons.mpr ⟨fun k hk b hb => p4 k hk b (e ▸ hb), p5⟩, fun k hk k' hk' b hb q => ?_⟩
    rcases List.mem_cons.mp hk' with rfl | hk'
    · exact p3 k hk i (.head _) b hb (e ▸ q)
    · exact p3 k hk k' (.tail _ hk') b hb q
  · intro k hk b hb
    rcases List.mem_append.mp hk with hk | hk
    · exact h.offF k (List.mem_append_left _ hk) b hb
    · rcases List.mem_cons.mp hk with rfl | hk
      · exact h.offF i im b (e ▸ hb)
      · exact h.offF k (List.mem_append_right _ (.tail _ hk)) b hb
end
noncomputable def Tri (fc : FC) (Pre : Shared → Prop) (body : List Stmt) (Post : Flow → Shared → Prop) : Prop := ∀ E s, Pre s → wpAny (model fc.G.prog fc.G.w) fc.A (execs body fc.env) Post E s
noncomputable def Sq (fc : FC) (rest : List Stmt) (Post : Flow → Shared → Prop) : Flow → Shared → Prop := fun f s => match f with
  | .next => ∀ E, wpAny (model fc.G.prog fc.G.w) fc.A (execs rest fc.env) Post E s
  | f => Post f s
section
variable {fc : FC} {s0 : Shared} {σ σ' : List (Str × AV)} {β : List Item} {Post : Flow → Shared → Prop} {rest : List Stmt} {Pre : Shared → Prop}
theorem Tri.nil (k : ∀ s, Pre s → Post .next s) : Tri fc Pre [] Post := fun E s h => wpAny_execs_nil (k s h)
theorem Tri.back (h : Tri fc Pre rest Post) : Tri fc Pre [] (Sq fc rest Post) := Tri.nil fun s hs E => h E s hs
theorem Tri.pre {Pre' : Shared → Prop} (h : Tri fc Pre' rest Post) (k : ∀ s, Pre s → Pre' s) : Tri fc Pre rest Post := fun E s hs => h E s (k s hs)
theorem Tri.vars (h : Tri fc (FS fc s0 σ' β) rest Post) (k : ∀ p ∈ σ', σ.lookup p.1 = some p.2) : Tri fc (FS fc s0 σ β) rest Post := h.pre fun s hs => hs.sub k
theorem Tri.st {st : Stmt} (h : ∀ E s, Pre s → wpAny (model fc.G.prog fc.G.w) fc.A (exec st fc.env) (Sq fc rest Post) E s) : Tri fc Pre (st :: rest) Post := fun E s hs =>
  wpAny_execs_cons (wpAny_mono (h E s hs) (fun f s' q => by cases f <;> first | exact q | exact q E) fun _ _ e => e)
theorem Tri.if (W : fc.Ok) {t a b pos x} (h : EvT (cx fc s0 σ β) t x) (h1 : x = true → Tri fc (FS fc s0 σ β) a (Sq fc rest Post)) (h2 : x = false → Tri fc (FS fc s0 σ β) b (Sq fc rest Post)) : Tri fc (FS fc s0 σ β) (.If t a b pos :: rest) Post := Tri.st fun E s hs => by
  rw [exec_If]
  refine wpAny_bind (wpAny_standAt (wpAny_bind ?_))
  refine h (cx_ok W) s _ _ hs fun s1 x1 => ?_
  cases x with
  | true => exact h1 rfl E s1 (FS.ext W hs x1)
  | false => exact h2 rfl E s1 (FS.ext W hs x1)
theorem Tri.ret (W : fc.Ok) {e pos r} (h : EvE (cx fc s0 σ β) e r) (k : ∀ s v, FS fc s0 σ β s → VR s.heap s.toks (PF fc []) r v → Post (.ret v) s) : Tri fc (FS fc s0 σ β) (.Return (some e) pos :: rest) Post := Tri.st fun E s hs => by
  rw [exec_Return_some]
  refine wpAny_bind (wpAny_standAt (wpAny_bind ?_))
  exact h (cx_ok W) s hs _ _ fun v s1 x1 y => wpAny_pure (k s1 v (FS.ext W hs x1) y)
theorem Tri.retF (W : fc.Ok) {e pos r} (h : EvF (cx fc s0 σ β) e r) (k : ∀ s v, FS fc s0 σ β s → VR s.heap s.toks (fun a => s0.heap.get? a = none) r v → Post (.ret v) s) : Tri fc (FS fc s0 σ β) (.Return (some e) pos :: rest) Post := Tri.st fun E s hs => by
  rw [exec_Return_some]
  refine wpAny_bind (wpAny_standAt (wpAny_bind ?_))
  exact h (cx_ok W) s _ _ hs fun v s1 x1 y => wpAny_pure (k s1 v (FS.ext W hs x1) (y.mono (fun _ _ _ e => e) fun a p => hs.kp.none p))
theorem Tri.asg {x : Str} {p pos : Pos} {e : Expr} (hsw : swapsWith e (some (.Name x p)) pos.line fc.env = pure false) (h : ∀ E s, Pre s → wpAny (model fc.G.prog fc.G.w) fc.A (eval e fc.env) (fun v s' => wpAny (model fc.G.prog fc.G.w) fc.A (storeName fc.env x v) (fun _ => Sq fc rest Post .next) E s') E s) :
    Tri fc Pre (.Assign [.Name x p] e pos :: rest) Post := Tri.st fun E s hs => by
  rw [exec_Assign_Name _ _ _ _ _ hsw]
  refine wpAny_bind (wpAny_standAt (wpAny_bind (wpAny_mono (h E s hs) (fun v s' q => wpAny_bind (wpAny_standAt (wpAny_bind (wpAny_bindName (wpAny_mono q (fun _ s'' q => wpAny_pure q) fun _ _ e => e))))) fun _ _ e => e)))
theorem Tri.asgE (W : fc.Ok) {x : Str} {p pos : Pos} {e : Expr} {r : AV} (h : EvE (cs fc s0 σ β) e r) (hx : Kd fc.env fc.own x) (k : Tri fc (FS fc s0 ((x, r) :: σ) β) rest Post) (hsw : swapsWith e (some (.Name x p)) pos.line fc.env = pure false := by rfl) :
    Tri fc (FS fc s0 σ β) (.Assign [.Name x p] e pos :: rest) Post := Tri.asg hsw fun E s hs => h (cs_ok W) s hs _ _ fun v s1 x1 y => (FS.ext W hs x1).store W hx y fun s2 h2 E' => k E' s2 h2
theorem Tri.asgF (W : fc.Ok) {x : Str} {p pos : Pos} {e : Expr} {r : AV} (h : EvF (cx fc s0 σ β) e r) (hx : Kd fc.env fc.own x) (k : Tri fc (FS fc s0 ((x, r) :: σ) β) rest Post) (hsw : swapsWith e (some (.Name x p)) pos.line fc.env = pure false := by rfl) :
    Tri fc (FS fc s0 σ β) (.Assign [.Name x p] e pos :: rest) Post := Tri.asg hsw fun E s hs => h (cx_ok W) s _ _ hs fun v s1 x1 y =>
      (FS.ext W hs x1).store W hx (y.mono (fun _ _ _ e => e) fun a p => FS.fresh W hs p) fun s2 h2 E' => k E' s2 h2
theorem Tri.asgA (W : fc.Ok) {x : Str} {p pos : Pos} {e : Expr} {r : AV} (h : EvE (cx fc s0 σ β) e r) (ha : r.atom = true) (hx : Kd fc.env fc.own x) (k : Tri fc (FS fc s0 ((x, r) :: σ) β) rest Post) (hsw : swapsWith e (some (.Name x p)) pos.line fc.env = pure false := by rfl) :
    Tri fc (FS fc s0 σ β) (.Assign [.Name x p] e pos :: rest) Post := Tri.asgF W (.of_atom h ha) hx k hsw
theorem Tri.asgL (W : fc.Ok) {x : Str} {p pos : Pos} {e : Expr} {xs : List AV} (h : EvF (cx fc s0 σ β) e (.list xs)) (ha : xs.all AV.atom = true) (hx : Kd fc.env fc.own x) (k : ∀ a, Tri fc (FS fc s0 ((x, .raw (.ref a)) :: σ) (Item.list a xs :: β)) rest Post) (hsw : swapsWith e (some (.Name x p)) pos.line fc.env = pure false := by rfl) :
    Tri fc (FS fc s0 σ β) (.Assign [.Name x p] e pos :: rest) Post := Tri.asg hsw fun E s hs => h (cx_ok W) s _ _ hs fun v s1 x1 y => by
  replace y := VR.listI y
  obtain ⟨a, vs, rfl, pa, hl, hv⟩ := y
  ·
    exact (hs.addList W pa x1 hl (hv.atoms ha)).store W hx .raw fun s2 h2 E' => k a E' s2 h2
theorem Tri.aug (W : fc.Ok) {x : Str} {p pos : Pos} {op : Operator} {e : Expr} {r1 r2 r : AV} (h1 : Has (cx fc s0 σ β) x r1) (h2 : EvE (cx fc s0 σ β) e r2) (hop : OpR (cx fc s0 σ β) (inplaceOp op) r1 r2 r) (ha : r.atom = true) (hx : Kd fc.env fc.own x) (k : Tri fc (FS fc s0 ((x, r) :: σ) β) rest Post) :
    Tri fc (FS fc s0 σ β) (.AugAssign (.Name x p) op e pos :: rest) Post := Tri.st fun E s hs => by
  refine wpAny_AugAssign_Name ?_
  obtain ⟨v, yv, hl⟩ := h1 (cx_ok W) s hs
  refine hl _ _ ?_
  refine h2 (cx_ok W) s hs _ _ fun v2 s2 x2 y2 => ?_
  refine hop (cx_ok W) s2 v v2 (FS.ext W hs x2) (yv.ext (cx_ok W) x2) y2 _ _ fun v3 s3 x3 y3 => ?_
  exact (FS.ext W hs (x2.trans x3)).store W hx (y3.atom ha) fun s4 h4 E' => k E' s4 h4
theorem Tri.asgT (W : fc.Ok) {ts : List Expr} {k1 : Nat} {tp pos : Pos} {e : Expr} {rs : List AV} {bs : List (Str × AV)} (h : EvE (cs fc s0 σ β) e (.tup rs)) (ht : AsRs fc.env fc.own (PF fc β) ts rs bs) (k : Tri fc (FS fc s0 (bs ++ σ) β) rest Post)
    (hs : swapsWithSole [.Tuple ts k1 tp] e pos.line fc.env = pure false := by rfl) (hw : swappedStores [.Tuple ts k1 tp] e fc.env = pure none := by rfl) : Tri fc (FS fc s0 σ β) (.Assign [.Tuple ts k1 tp] e pos :: rest) Post := Tri.st fun E s hs' => by
  refine Assign_Tuple ?_ hs hw
  refine h (cs_ok W) s hs' _ _ fun v s1 x1 y => ?_
  have h1 := FS.ext W hs' x1
  exact AsR.tuple W.Fb ht fc.G.prog fc.G.w fc.A s1 σ v _ _ W.rm.1 h1.vars y fun s2 V2 x2 E' => k E' s2 (h1.chg W x2 V2)
theorem Tri.setL (W : fc.Ok) {l r : List Item} {o i e : Expr} {tp pos : Pos} {a : Addr} {xs : List AV} {n : Int} {y : AV} (h : EvE (cx fc s0 σ (l ++ Item.list a xs :: r)) e y) (ha : y.atom = true) (h1 : EvE (cs fc s0 σ (l ++ Item.list a xs :: r)) o (.raw (.ref a))) (h2 : EvE (cx fc s0 σ (l ++ Item.list a xs :: r)) i (.int n)) (h0 : 0 ≤ n) (hn : n < xs.length) (hb : xs.length ≤ 1000000)
    (k : Tri fc (FS fc s0 σ (l ++ Item.list a (xs.set n.toNat y) :: r)) rest Post) (hsw : swapsWith e (some (.Subscript o i tp)) pos.line fc.env = pure false := by rfl) (hns : noSlice i = true := by rfl) :
    Tri fc (FS fc s0 σ (l ++ Item.list a xs :: r)) (.Assign [.Subscript o i tp] e pos :: rest) Post := Tri.st fun E s hs => by
  rw [exec_Assign_Subscript _ _ _ _ _ hsw]
  refine wpAny_bind (wpAny_standAt (wpAny_bind ?_))
  refine h (cx_ok W) s hs _ _ fun v s1 x1 y1 => wpAny_bind ?_
  have hs1 := FS.ext W hs x1
  refine sub_assign hns ?_
  refine h1 (cs_ok W) s1 hs1 _ _ fun v2 s2 x2 y2 => ?_
  (first | ((first | replace y2 := VR.intI y2 | replace y2 := VR.strI y2); obtain ⟨_, rfl⟩ := y2) | ((first | replace y2 := VR.rawI y2 | replace y2 := VRs.nilI y2 | replace y2 := VR.boolI y2 | replace y2 := VR.noneI y2); subst y2) | cases y2)
  have hs2 := FS.ext W hs1 x2
  refine h2 (cx_ok W) s2 hs2 _ _ fun v3 s3 x3 y3 => ?_
  have hs3 := FS.ext W hs2 x3
  (first | ((first | replace y3 := VR.intI y3 | replace y3 := VR.strI y3); obtain ⟨_, rfl⟩ := y3) | ((first | replace y3 := VR.rawI y3 | replace y3 := VRs.nilI y3 | replace y3 := VR.boolI y3 | replace y3 := VR.noneI y3); subst y3) | cases y3)
  obtain ⟨vs, hl, hv⟩ := hs3.box (Item.list a xs) (List.mem_append_right _ (.head _))
  have hlen := hv.length
  refine wpAny_setItem_list hl h0 (by omega) (by rw [List.size_toArray]; omega) fun h' hl' hsb => wpAny_pure ?_
  intro E'
  refine k E' _ (hs3.set W (j := Item.list a (xs.set n.toNat y)) rfl ⟨h', _, rfl⟩ (fun b ob hb e => hsb.extBut b ob (fun q => hb (List.mem_singleton.mpr q)) e) ?_)
  refine ⟨vs.set n.toNat v, by simpa using hl', (hv.set n.toNat (y1.atom ha (Nat.le_trans x2.le x3.le))).mono (fun b ob pb e => hsb.extBut b ob (fun q => pb.2 (mem_MUs.mpr (.inr ⟨_, List.mem_append_right _ (.head _), List.mem_singleton.mpr q⟩))) e) fun _ p => p⟩
where
  sub_assign {M : Model} {A : Around} {env : Env} {o i : Expr} {tp : Pos} {v : Value} {Q : Unit → Shared → Prop} {E : Value → Shared → Prop} {s : Shared} (hns : noSlice i = true) (h : wpAny M A (eval o env) (fun ov s₁ => wpAny M A (eval i env) (fun iv s₂ => wpAny M A (setItem ov iv v) Q E s₂) E s₁) E s) : wpAny M A (assign (.Subscript o i tp) env v) Q E s := fun Γ p hΓ => by
    rw [assign_Subscript]
    simp only [Sem.wp_bind', Sem.wp_holding, Sem.wp_cmd_standAt, Sem.wp_release]
    exact Sem.wp_mono M Γ _ (fun ov p₁ s₁ h₁ => Sem.wp_mono M Γ _ (fun iv p₂ s₂ h₂ => h₂ Γ _ hΓ) (fun _ _ _ h' => h') _ _ (h₁ Γ p₁ hΓ)) (fun _ _ _ h' => h') _ _ (h Γ p hΓ)
end
noncomputable def Fn (G : G0) (f : Addr) (k : Nat) (rs : List AV) (res : AV) : Prop := ∀ A s vs Q E, Rm A k → Glob G NT s → VRs s.heap s.toks NT rs vs →
  (∀ v s', Ext G s s' → VR s'.heap s'.toks (fun a => s.heap.get? a = none) res v → Q v s') → wpAny (model G.prog G.w) A (call (.ref f) vs []) Q E s
theorem bindL_other {kd : Str → Option NameKind} : ∀ {binds : List (Str × Value)} {m : Str → Option Value} {x : Str}, x ∉ binds.map Prod.fst → bindL kd binds m x = m x
  | [], _, _, _ => rfl
  | (n, v) :: r, m, x, h => by
    have h1 : x ≠ n := fun q => h (q ▸ .head _)
    have h2 : x ∉ r.map Prod.fst := fun q => h (.tail _ q)
    unfold bindL
    rw [bindL_other h2]
    split
    · simp [h1]
    · rfl
theorem bindL_get {kd : Str → Option NameKind} : ∀ {binds : List (Str × Value)} {m : Str → Option Value} {x : Str} {v : Value}, (binds.map Prod.fst).Nodup → (x, v) ∈ binds → kd x = some .local → bindL kd binds m x = some v := fun {binds} => by
  induction binds with
  | nil => intro _ _ _ _ h; cases h
  | cons p r ih =>
    intro m x v hn h hk
    obtain ⟨n, u⟩ := p
    have hn' := List.nodup_cons.mp hn
    unfold bindL
    rcases List.mem_cons.mp h with e | h
    · obtain ⟨rfl, rfl⟩ := Prod.mk.inj e
      rw [bindL_other hn'.1, if_pos hk]
      simp
    · exact ih hn'.2 h hk
theorem bindC_other {kd : Str → Option NameKind} : ∀ {binds : List (Str × Value)} {m : Str → Option Value} {x : Str}, x ∉ binds.map Prod.fst → bindC kd binds m x = m x
  | [], _, _, _ => rfl
  | (n, v) :: r, m, x, h => by
    have h1 : x ≠ n := fun q => h (q ▸ .head _)
    have h2 : x ∉ r.map Prod.fst := fun q => h (.tail _ q)
    unfold bindC
    rw [bindC_other h2]
    split
    · rfl
    · simp [h1]
theorem bindC_get {kd : Str → Option NameKind} : ∀ {binds : List (Str × Value)} {m : Str → Option Value} {x : Str} {v : Value}, (binds.map Prod.fst).Nodup → (x, v) ∈ binds → kd x ≠ some .local → bindC kd binds m x = some v := fun {binds} => by
  induction binds with
  | nil => intro _ _ _ _ h; cases h
  | cons p r ih =>
    intro m x v hn h hk
    obtain ⟨n, u⟩ := p
    have hn' := List.nodup_cons.mp hn
    unfold bindC
    rcases List.mem_cons.mp h with e | h
    · obtain ⟨rfl, rfl⟩ := Prod.mk.inj e
      rw [bindC_other hn'.1, if_neg hk]
      simp
    · exact ih hn'.2 h hk
theorem call_cells_le {prog : Program} {w : World} {A : Around} {s : Shared} {R : Result → Shared → Prop} {a : Addr} {o : Obj} {fd : FuncData} {body : List Stmt} {vals : List Value} {binds : List (Str × Value)}
    (hroom : A.depth < recursionLimit) (ho : s.heap.get? a = some o) (hdata : o.data = .func fd) (hlim : s.heap.NoLimit) (hcd : s.heap.CodeRec fd.code fd.qualname)
    (hbody : fd.body = .stmts body) (hbind : bindArgs fd ⟨vals, []⟩ = pure binds) (hclo : fd.closure = [])
    (hkind : ∀ x ∈ binds, fd.scope.names.lookup x.1 = some .local ∨ (fd.scope.names.lookup x.1 = some .cell ∧ ((cellsFrom (s.heap.objs.size + 1) fd.scope.names []).lookup x.1).isSome = true))
    (h : ∀ s₁, InCallC s (callEnvC fd s.heap.objs.size a).locals (bindL (callEnvC fd s.heap.objs.size a).kindOf binds fun _ => none) (callEnvC fd s.heap.objs.size a).cells
        (bindC (callEnvC fd s.heap.objs.size a).kindOf binds fun _ => none) s₁ → s.toks ≤ s₁.toks →
      wpAny (model prog w) (A.deeper (callEnvC fd s.heap.objs.size a)) (execs body (callEnvC fd s.heap.objs.size a)) (fun f s' => R (.ok (.ret (match f with | .ret v => v | _ => .none))) s')
        (fun e s' => wpAny (model prog w) (A.deeper (callEnvC fd s.heap.objs.size a)) (leaving (callEnvC fd s.heap.objs.size a) e) (fun _ s'' => R (.error e) s'') (fun e' s'' => R (.error e') s'') s') s₁)
    (hco : fd.scope.isCoroutine = false := by rfl) (hgen : fd.scope.isGenerator = false := by rfl) (hk : fd.scope.kind = .function := by rfl) :
    codeAny (model prog w) A (.call (.ref a) ⟨vals, []⟩) R s := by
  refine codeAny_call_function hroom ho hdata hco hgen hbody hcd ?_
  rw [hbind, hclo]
  refine wpAny_pure (wpAny_with_toks (Nat.le_refl s.toks) (wpAny_newFunctionEnv_cells hk hkind fun env he s' x hle => ?_))
  subst he
  exact ⟨hlim.keeps x.toInCall.keep, codeAny_func (h s' x hle)⟩
theorem zip_look {h : Heap} {τ : Nat} {P : Addr → Prop} : ∀ {names : List Str} {rs : List AV} {vs : List Value} {x : Str} {r : AV}, VRs h τ P rs vs → (names.zip rs).lookup x = some r → ∃ v, (names.zip vs).lookup x = some v ∧ VR h τ P r v := fun {names} => by
  induction names with
  | nil => intro rs vs x r _ e; cases e
  | cons n ns ih =>
    intro rs vs x r y e
    cases rs with
    | nil => cases e
    | cons r0 rs =>
      obtain ⟨v, vs, rfl, a, t⟩ := VRs.consI y
      rw [List.zip_cons_cons, List.lookup_cons] at e
      rw [List.zip_cons_cons, List.lookup_cons]
      cases hx : x == n with
      | true => rw [hx] at e; cases e; exact ⟨_, rfl, a⟩
      | false => rw [hx] at e; exact ih t e
theorem zip_keys {α : Type} : ∀ {names : List Str} {vs : List α}, vs.length = names.length → (names.zip vs).map Prod.fst = names
  | [], _, _ => by simp
  | n :: ns, v :: vs, h => by
    rw [List.zip_cons_cons, List.map_cons, zip_keys (by simpa using h)]
  | n :: ns, [], h => by simp at h
noncomputable def fcOf (G : G0) (A : Around) (fd : FuncData) (L f : Addr) : FC := ⟨G, A, callEnvC fd L f, ownOf fd.scope L, []⟩
noncomputable def fcS (G : G0) (A : Around) (fd : FuncData) (sc : Scope) (L f : Addr) : FC := ⟨G, A, { scope := sc, locals := L, globals := fd.globals, cells := ownOf sc L, qual := fd.qualname ++ ".<locals>.", func := some f, code := fd.code, frame := some L, builtins := fd.builtins }, ownOf sc L, []⟩
theorem FS.toExt {fc : FC} {s0 s : Shared} {σ β} (W : fc.Ok) (h : FS fc s0 σ β s) (hO : fc.O = [] := by rfl) : Ext fc.G s0 s := ⟨h.kp.mono fun a q => by rw [hO, List.append_nil] at q; exact q, fun P f t => W.g.tmono _ _ _ (h.tabs P f t) fun a _ p _ => p.1⟩
theorem deeper_rm {A : Around} {k : Nat} {env : Env} (h : Rm A (k + 1)) : Rm (A.deeper env) k := ⟨h.1, by show A.depth + 1 + 30 + k < _; have := h.2.1; omega, by show A.units + 3 + 400 + 3 * k < _; have := h.2.2; omega⟩
theorem Rm.le {A : Around} {k k' : Nat} (h : Rm A k) (e : k' ≤ k) : Rm A k' := ⟨h.1, by have := h.2.1; omega, by have := h.2.2; omega⟩
theorem Fn.mk0 {G : G0} (o : G.Ok) {f : Addr} {ob : Obj} {fd : FuncData} {body : List Stmt} {k : Nat} {rs : List AV} {res : AV} (names : List Str) (ho : G.g.get? f = some ob) (hd : ob.data = .func fd) (hcd : G.g.CodeRec fd.code fd.qualname)
    (hb : fd.body = .stmts body) (hg : fd.globals = mainGlobals) (hbu : fd.builtins = builtinsNs) (hcl : fd.closure = []) (hnd : (fd.scope.names.map Prod.fst).Nodup) (hnn : names.Nodup) (hl : rs.length = names.length)
    (hbind : ∀ vs, vs.length = names.length → bindArgs fd ⟨vs, []⟩ = pure (names.zip vs)) (hk : ∀ x ∈ names, fd.scope.names.lookup x = some .local ∨ fd.scope.names.lookup x = some .cell)
    (hbody : ∀ A s0 L, Rm A k → (fcOf G A fd L f).Ok → Tri (fcOf G A fd L f) (FS (fcOf G A fd L f) s0 (names.zip rs) []) body (fun fl s' => ∃ v, (match fl with | .ret v => v | _ => .none) = v ∧ Ext G s0 s' ∧ VR s'.heap s'.toks (fun a => s0.heap.get? a = none) res v))
    (hco : fd.scope.isCoroutine = false := by rfl) (hgen : fd.scope.isGenerator = false := by rfl) (hsk : fd.scope.kind = .function := by rfl) : Fn G f (k + 1) rs res := fun A s vs Q E rm gl hv kk => by
  have hlen : vs.length = names.length := by rw [← hv.length]; exact hl
  have T := gl.top o
  have keys : ((names.zip vs).map Prod.fst).Nodup := by rw [zip_keys hlen]; exact hnn
  refine wpAny_call (call_cells_le (binds := names.zip vs) (by have := rm.2.1; omega) (gl.keep _ _ ho) hd T.nolimit (hcd.keeps gl.keep) hb (hbind vs hlen) hcl ?_ (fun s1 X hle => ?_) hco hgen hsk)
  · intro x hx
    have hx1 : x.1 ∈ names := by
      have := List.mem_map_of_mem (f := Prod.fst) hx
      rwa [zip_keys hlen] at this
    rcases hk _ hx1 with h | h
    · exact .inl h
    · obtain ⟨a, ha⟩ := own_look (C := s.heap.objs.size) hnd h
      exact .inr ⟨h, Option.isSome_iff_exists.mpr ⟨a, ha⟩⟩
  · generalize hL : s.heap.objs.size = L at X ⊢
    obtain ⟨h1, tk, rfl, hkeep⟩ := X.done
    have hle' : s.toks ≤ tk := hle
    have newL : s.heap.get? L = none := ge_none (by rw [hL]; exact Nat.le_refl _)
    have newF : ∀ b ∈ FAd (callEnvC fd L f) (ownOf fd.scope L), s.heap.get? b = none := fun b hb' => by
      rcases List.mem_cons.mp hb' with e | hb'
      · have e' : b = L := e
        rw [e']; exact newL
      · obtain ⟨⟨x, a⟩, hm, rfl⟩ := List.mem_map.mp hb'
        refine ge_none ?_
        have h2 : @LT.lt Nat _ L a := X.above x a hm
        have h3 : @Eq Nat s.heap.objs.size L := hL
        show @LE.le Nat _ s.heap.objs.size a
        omega
    have ntF : ∀ b ∈ FAd (callEnvC fd L f) (ownOf fd.scope L), b ∉ Tb := fun b hb' q => by
      obtain ⟨ob', eo⟩ := o.tlive _ _ gl.tabs b q
      rw [newF b hb'] at eo; cases eo
    have F : FOk (callEnvC fd L f) (ownOf fd.scope L) (PF (fcOf G (A.deeper (callEnvC fd L f)) fd L f) []) := by
      refine ⟨hsk, fun x a h => h, fun p hp => lookup_pw (own_pw hnd) hp, fun x a h => own_cell hnd (mem_of_lookup h), X.apart, fun p hp e => ?_, fun b hb' => ⟨fun p => p.2 (mem_MUs.mpr (.inl hb')), ntF b hb'⟩⟩
      have h2 : @LT.lt Nat _ L p.2 := X.above p.1 p.2 hp
      have e' : @Eq Nat p.2 L := e
      omega
    have W : (fcOf G (A.deeper (callEnvC fd L f)) fd L f).Ok := ⟨o, (deeper_rm rm).le (Nat.zero_le _), F, hg, hbu, fun a h => (nomatch h)⟩
    refine wpAny_mono (hbody (A.deeper (callEnvC fd L f)) s L (deeper_rm rm) W (fun e s' => wpAny (model G.prog G.w) (A.deeper (callEnvC fd L f)) (leaving (callEnvC fd L f) e) (fun _ s'' => _) (fun e' s'' => _) s') _ ?_) (fun fl s' h => ?_) fun _ _ e => e
    · refine ⟨Kp.of (tk := tk) hkeep, fun P fr t => ?_, fun b hb' => ?_, fun b hb' => .inr (newF b ((mem_MUs.mp hb').resolve_right (by simp))), gl, ?_, fun i hi => (nomatch hi), List.Pairwise.nil, fun i hi => (nomatch hi)⟩
      · refine o.tok _ _ _ (o.tmono P _ _ t fun a ob' p e => ⟨p, fun q => ?_⟩) fun a ob' _ e => hkeep a ob' e
        rw [newF a ((mem_MUs.mp q).resolve_right (by simp))] at e; cases e
      · rcases List.mem_cons.mp ((mem_MUs.mp hb').resolve_right (by simp)) with e | hb'
        · obtain ⟨ob', _, _, eo, _⟩ := X.toInCall.ns
          exact ⟨ob', (show b = L from e) ▸ eo⟩
        · obtain ⟨⟨x, a⟩, hm, rfl⟩ := List.mem_map.mp hb'
          obtain ⟨ob', eo, _⟩ := X.cell x a (lookup_pw (own_pw hnd) hm)
          exact ⟨ob', eo⟩
      · have val : ∀ x r, (names.zip rs).lookup x = some r → ∃ v, (x, v) ∈ names.zip vs ∧ VR h1 tk (PF (fcOf G (A.deeper (callEnvC fd L f)) fd L f) []) r v := fun x r e => by
          obtain ⟨v, e', y⟩ := zip_look hv e
          refine ⟨v, mem_of_lookup e', y.up (fun a ob' _ e => hkeep a ob' e) (fun a ob' p e => ⟨p, fun q => ?_⟩) hle'⟩
          rw [newF a ((mem_MUs.mp q).resolve_right (by simp))] at e; cases e
        refine ⟨⟨_, X.toInCall.ns, fun x r e hx => ?_⟩, fun x a e => ⟨_, X.cell x a e, fun r er => ?_⟩⟩
        · obtain ⟨v, hm, y⟩ := val x r e
          exact ⟨v, bindL_get keys hm hx, y⟩
        · obtain ⟨v, hm, y⟩ := val x r er
          refine ⟨v, bindC_get keys hm ?_, y⟩
          rw [show (callEnvC fd L f).kindOf x = some .cell from own_cell hnd (mem_of_lookup e)]
          decide
    · obtain ⟨v, rfl, x, y⟩ := h
      exact kk _ s' x y
theorem Fn.mk {G : G0} (o : G.Ok) {f : Addr} {ob : Obj} {fd : FuncData} {sc : Scope} {body : List Stmt} {k : Nat} {rs : List AV} {res : AV} (names : List Str) (hsc : fd.scope = sc) (ho : G.g.get? f = some ob) (hd : ob.data = .func fd) (hcd : G.g.CodeRec fd.code fd.qualname)
    (hb : fd.body = .stmts body) (hg : fd.globals = mainGlobals) (hbu : fd.builtins = builtinsNs) (hcl : fd.closure = []) (hnd : (sc.names.map Prod.fst).Nodup) (hnn : names.Nodup) (hl : rs.length = names.length)
    (hbind : ∀ vs, vs.length = names.length → bindArgs fd ⟨vs, []⟩ = pure (names.zip vs)) (hk : ∀ x ∈ names, sc.names.lookup x = some .local ∨ sc.names.lookup x = some .cell)
    (hbody : (sc.names.map Prod.fst).Nodup → ∀ A s0 L, Rm A k → (fcS G A fd sc L f).Ok → Tri (fcS G A fd sc L f) (FS (fcS G A fd sc L f) s0 (names.zip rs) []) body (fun fl s' => ∃ v, (match fl with | .ret v => v | _ => .none) = v ∧ Ext G s0 s' ∧ VR s'.heap s'.toks (fun a => s0.heap.get? a = none) res v))
    (hco : fd.scope.isCoroutine = false := by rfl) (hgen : fd.scope.isGenerator = false := by rfl) (hsk : fd.scope.kind = .function := by rfl) : Fn G f (k + 1) rs res := by
  subst hsc
  exact Fn.mk0 o names ho hd hcd hb hg hbu hcl hnd hnn hl hbind hk (hbody hnd) hco hgen hsk
theorem Callee.func {c : Cx} {f : Addr} {ob : Obj} {fd : FuncData} (o : c.Ok) (ho : c.G.g.get? f = some ob) (hd : ob.data = .func fd) : Callee c (.ref f) := fun s hs =>
  .inr ⟨f, ob, fd, rfl, (o.glob s hs).keep _ _ ho, fun q => absurd ho (by rw [o.g.hide f q]; exact nofun), hd⟩
theorem Fn.any {G : G0} {f : Addr} {k : Nat} {rs : List AV} {res : AV} (h : Fn G f k rs res) {c : Cx} (e : c.G = G) (o : c.Ok) (rm : Rm c.A k) {s vs} (hs : c.Φ s) (hv : VRs s.heap s.toks c.P rs vs) {Q E} (kk : ∀ v s', Ext c.G s s' → VR s'.heap s'.toks (fun a => s.heap.get? a = none) res v → Q v s') : wpAny c.M c.A (call (.ref f) vs []) Q E s := by
  subst e
  exact h c.A s vs Q E rm ((o.glob s hs).wk o.g fun a p => o.pt a p) (hv.mono (fun _ _ _ e => e) fun a p => o.pt a p) kk
theorem EvF.call {c : Cx} {x : Str} {p pos : Pos} {es : List Expr} {f : Addr} {k : Nat} {rs : List AV} {res : AV} {ob : Obj} {fd : FuncData} (hf : EvE c (.Name x p) (.raw (.ref f))) (ho : c.G.g.get? f = some ob) (hd : ob.data = .func fd) (ha : EvA c es rs) (h : Fn c.G f k rs res) (rm : Rm c.A k) :
    EvF c (.Call (.Name x p) es [] pos) res := fun o s Q E hs kk => by
  rw [arm_eval_Call_Name']
  refine wpAny_bind (hf o s hs _ _ fun v s1 x1 y1 => ?_)
  (first | ((first | replace y1 := VR.intI y1 | replace y1 := VR.strI y1); obtain ⟨_, rfl⟩ := y1) | ((first | replace y1 := VR.rawI y1 | replace y1 := VRs.nilI y1 | replace y1 := VR.boolI y1 | replace y1 := VR.noneI y1); subst y1) | cases y1)
  have hs1 := o.stab _ _ hs x1
  refine callW o hs1 (Callee.func o ho hd) ha fun vs s2 x2 y2 => ?_
  refine h.any rfl o rm (o.stab _ _ hs1 x2) y2 fun v s3 x3 y3 => kk v s3 ((x1.trans x2).trans x3) (y3.mono (fun _ _ _ e => e) fun a p => (x1.trans x2).none p)
noncomputable def TurnPost (fc : FC) (s0 : Shared) (nx : Item → Shared → Prop) (it : Item) (rest : List Stmt) (Post : Flow → Shared → Prop) : Flow → Shared → Prop := fun f s => match f with
  | .next => nx it s
  | .cont => nx it s
  | .brk => ∀ E, wpAny (model fc.G.prog fc.G.w) fc.A (execs rest fc.env) Post E s
  | .ret v => Post (.ret v) s
theorem Tri.for {fc : FC} (W : fc.Ok) {s0 : Shared} {β0 : List Item} {σ0 : List (Str × AV)} {Post : Flow → Shared → Prop} {rest body orelse : List Stmt} {target iter : Expr} {pos : Pos} {n : Nat} {bs : Nat → List (Str × AV)} {Tg : Env → List (Str × Addr) → (Addr → Prop) → Prop}
    (σs : Nat → List (Str × AV)) (βs : Nat → List Item) (ok : Nat → Prop)
    (hi : EvG (cs fc s0 σ0 β0) iter target n bs Tg) (htg : ∀ P', FOk fc.env fc.own P' → Tg fc.env fc.own P') (hb0 : β0 = βs 0) (hs0 : ∀ p ∈ σs 0, σ0.lookup p.1 = some p.2) (hok : ok 0)
    (hbody : ∀ i it, i < n → ok i → Tri fc (FS fc s0 (bs i ++ σs i) (it :: βs i)) body (TurnPost fc s0 (fun it s => ok (i + 1) ∧ FS fc s0 (σs (i + 1)) (it :: βs (i + 1)) s) it rest Post))
    (hmu : ∀ i, i < n → (βs (i + 1)).map Item.ad = (βs i).map Item.ad)
    (hend : ok n → Tri fc (FS fc s0 (σs n) (βs n)) orelse (Sq fc rest Post))
    (hs : ∀ x, foldedSetIterable iter fc.env x = pure x := by intro _; rfl) :
    Tri fc (FS fc s0 σ0 β0) (.For target iter body orelse pos :: rest) Post := Tri.st fun E s h0 => by
  subst hb0
  refine wpAny_For ?_ hs
  refine hi (cs_ok W) s _ _ h0 fun I fp wr St s2 it => ?_
  have tg := htg (fun a => PF fc (βs 0) a ∧ a ∉ wr) (W.Fb.sub fun a h => h.1)
  obtain ⟨D, hD, T⟩ := it.turns fc.env fc.own (fun a => PF fc (βs 0) a ∧ a ∉ wr) (W.Fb.sub fun a h => h.1) tg (fun a h => h) (fun a o h e => h) (fun b hb q => (it.fpP b hb).1.2 (mem_MUs.mpr (.inl q)))
  have adEq : ∀ i, i ≤ n → (βs i).map Item.ad = (βs 0).map Item.ad := by
    intro i
    induction i with
    | zero => intro _; rfl
    | succ i ih => intro h; rw [hmu i h, ih (Nat.le_of_succ_le h)]
  have muEq : ∀ i, i ≤ n → MUs fc (βs i) = MUs fc (βs 0) := fun i h => by
    unfold MUs
    rw [List.flatMap_def, List.flatMap_def, adEq i h]
  let IT : Nat → Item := fun i => Item.iter wr fp (St i) D (fun a => PF fc (βs 0) a ∧ a ∉ wr) T.sub (T.live i) (T.frame i)
  have start : FS fc s0 (σs 0) (IT 0 :: βs 0) s2 := by
    refine FS.sub ?_ hs0
    refine h0.add W (IT 0) it.new it.ext ⟨it.st, fun b hb => ?_, s2.heap, s2.toks, Nat.le_refl _, hD, fun b o p e => ⟨PF_cons.mpr p, e⟩⟩ fun P f t => ?_
    · by_cases q : b ∈ wr
      · exact .inl q
      · obtain ⟨p, o, e⟩ := it.fpP b hb
        exact .inr ⟨PF_cons.mpr ⟨p, q⟩, o, e⟩
    · exact it.tabs _ (fun a e => ⟨f a (h0.kp.none e), fun q => by obtain ⟨ob, eo⟩ := h0.live a q; rw [e] at eo; cases eo⟩) (h0.tabs P f t)
  refine codeAny_forLoop_any (fun k s => ∃ i, k = n + 1 - i ∧ i ≤ n ∧ ok i ∧ FS fc s0 (σs i) (IT i :: βs i) s) ?_ (n + 1) ⟨0, rfl, Nat.zero_le _, hok, start⟩
  rintro k s ⟨i, rfl, hin, hoki, h⟩
  obtain ⟨st, hfp, h1, τ1, ht1, d1, k1⟩ := h.box (IT i) (.head _)
  have pfEq : ∀ a, PF fc (IT i :: βs i) a ↔ PF fc (βs 0) a ∧ a ∉ wr := fun a => by
    rw [PF_cons]
    unfold PF
    rw [muEq i hin]
    exact Iff.rfl
  have d : D s.heap s.toks := T.dk _ _ _ _ d1 (fun b o p e => (k1 b o p e).2) ht1
  by_cases hlt : i < n
  · refine T.item i s (σs i) _ _ _ hlt st d (h.vars.up (fun _ _ _ e => e) fun a _ p _ => (pfEq a).mp p) fun s' st' V' x => ?_
    have hset : FS fc s0 (bs i ++ σs i) (IT (i + 1) :: βs i) s' := by
      have inM : ∀ b, b ∈ wr ++ FAd fc.env fc.own → b ∈ MUs fc (IT i :: βs i) := fun b hb => (List.mem_append.mp hb).elim (fun q => mem_MUs_cons.mpr (.inr q)) fun q => mem_MUs.mpr (.inl q)
      have muI : MUs fc (IT (i + 1) :: βs i) = MUs fc (IT i :: βs i) := rfl
      have pfI : PF fc (IT (i + 1) :: βs i) = PF fc (IT i :: βs i) := rfl
      have kpP : ∀ b o, PF fc (IT i :: βs i) b → s.heap.get? b = some o → s'.heap.get? b = some o := fun b o p e => x.keep b o (fun q => p.2 (inM b q)) e
      refine ⟨?_, fun P f t => ?_, fun a ha => ?_, fun a ha => h.new a ha, h.gl0, ?_, fun j hj => ?_, ?_, ?_⟩
      · have le' := Nat.le_trans h.kp.le x.le
        obtain ⟨hh, tk, e1⟩ := h.kp.same
        obtain ⟨hh', tk', e2⟩ := x.same
        have out : ∀ a ob, a ∉ Tb ++ fc.O → s0.heap.get? a = some ob → a ∉ wr ++ FAd fc.env fc.own := fun a ob n e q => (h.new a (inM a q)).elim (fun o => n (List.mem_append_right _ o)) fun q => by rw [q] at e; cases e
        refine ⟨⟨hh', tk', by rw [e2, e1]⟩, fun a ob n e => x.keep a ob (out a ob n e) (h.kp.keep a ob n e), fun a ob e => ?_, le'⟩
        obtain ⟨o1, e1⟩ := h.kp.live a ob e
        exact x.live a o1 e1
      · exact W.g.tok _ _ _ (h.tabs P f t) fun a ob hp e => x.keep a ob (fun q => hp.elim (fun p => p.2 (inM a q)) fun t => h.mut W (inM a q) t) e
      · obtain ⟨ob, e⟩ := h.live a ha
        exact x.live a ob e
      · exact V'.up (fun _ _ _ e => e) fun a _ p _ => (pfEq a).mpr p
      · rcases List.mem_cons.mp hj with rfl | hj
        · refine ⟨st', fun b hb => (hfp b hb).imp_right fun ⟨p, o, e⟩ => ⟨p, o, kpP b o p e⟩, h1, τ1, Nat.le_trans ht1 x.le, d1, fun b o p e => ?_⟩
          obtain ⟨p2, e2⟩ := k1 b o p e
          exact ⟨p2, kpP b o p2 e2⟩
        · refine j.fr _ _ _ _ _ _ (h.box j (.tail _ hj)) (fun b o hb e => hb.elim (fun p => kpP b o p e) fun p => x.keep b o (fun q => ?_) e) (fun b o p _ => p) x.le
          rcases List.mem_append.mp q with q | q
          · exact (List.pairwise_cons.mp h.sep).1 j hj b q p
          · exact h.offF j (.tail _ hj) b p q
      · exact List.pairwise_cons.mpr ⟨(List.pairwise_cons.mp h.sep).1, (List.pairwise_cons.mp h.sep).2⟩
      · intro j hj
        rcases List.mem_cons.mp hj with rfl | hj
        · exact h.offF (IT i) (.head _)
        · exact h.offF j (.tail _ hj)
    refine wpAny_mono (hbody i (IT (i + 1)) hlt hoki _ s' hset) (fun f s3 q => ?_) fun _ _ e => e
    cases f with
    | next => exact ⟨n + 1 - (i + 1), by omega, i + 1, rfl, hlt, q.1, q.2⟩
    | cont => exact ⟨n + 1 - (i + 1), by omega, i + 1, rfl, hlt, q.1, q.2⟩
    | brk => exact q
    | ret v => exact q
  · have hn : i = n := Nat.le_antisymm hin (Nat.not_lt.mp hlt)
    subst hn
    refine T.done s _ _ st fun h' tk hle keep => ?_
    have fin : FS fc s0 (σs i) (βs i) { s with heap := h', toks := tk } := by
      have outP : ∀ b, PF fc (IT i :: βs i) b → b ∉ wr := fun b p => (PF_cons.mp p).2
      have hd := h.drop W
      have wr0 : ∀ a ∈ wr, s2.heap.get? a = none → True := fun _ _ _ => trivial
      have kp0 : ∀ a ob, s0.heap.get? a = some ob → a ∉ wr := fun a ob e q => by
        obtain ⟨o1, e1⟩ := h0.kp.live a ob e
        rw [it.new a q] at e1; cases e1
      have offw : ∀ b ∈ MUs fc (βs i), b ∉ wr := fun b hb q => by
        rcases mem_MUs.mp hb with p | ⟨j, hj, p⟩
        · exact h.offF (IT i) (.head _) b q p
        · exact (List.pairwise_cons.mp h.sep).1 j hj b q p
      refine ⟨?_, fun P f t => ?_, fun a ha => ?_, hd.new, h.gl0, ?_, fun j hj => ?_, hd.sep, hd.offF⟩
      · have le' := Nat.le_trans h.kp.le hle
        obtain ⟨hh, tk1, e1⟩ := h.kp.same
        refine ⟨⟨h', tk, by rw [e1]⟩, fun a ob n e => keep a ob (kp0 a ob e) (h.kp.keep a ob n e), fun a ob e => ?_, le'⟩
        obtain ⟨o1, e1⟩ := h.kp.live a ob e
        exact ⟨o1, keep a o1 (kp0 a ob e) e1⟩
      · refine W.g.tmono _ _ _ (W.g.tok _ _ _ (h.tabs P f t) fun a ob hp e => keep a ob (fun q => ?_) e) fun a _ p _ => ⟨p.1, fun q => p.2 (mem_MUs_cons.mpr (.inl q))⟩
        exact hp.elim (fun p => p.2 (mem_MUs_cons.mpr (.inr q))) fun t => h.mut W (mem_MUs_cons.mpr (.inr q)) t
      · obtain ⟨ob, e⟩ := hd.live a ha
        exact ⟨ob, keep a ob (offw a ha) e⟩
      · exact h.vars.up (fun b o hb e => keep b o (hb.elim (outP b) fun q => offw b (mem_MUs.mpr (.inl q))) e) (fun a _ p _ => (PF_cons.mp p).1) hle
      · exact j.fr _ _ _ _ _ _ (h.box j (.tail _ hj)) (fun b o hb e => keep b o (hb.elim (outP b) fun q => offw b (mem_MUs.mpr (.inr ⟨j, hj, q⟩))) e) (fun b o p _ => (PF_cons.mp p).1) hle
    exact wpAny_mono (hend hoki _ _ fin) (fun f s3 q => q) fun _ _ e => e
section
variable {c : Cx}
theorem preSum_sum (val : Nat → Int) : ∀ (n : Nat), preSum val n = ((List.range n).map val).sum
  | 0 => rfl
  | n + 1 => by rw [List.range_succ, List.map_append, List.sum_append, ← preSum_sum val n]; simp [preSum]
theorem CaR.sum {n : Nat} {val : Nat → Int} (hfit : ∀ j, j < n → InLong (val j) ∧ InLong (preSum val (j + 1))) : CaR c (.builtin "sum") [.list ((List.range n).map fun i => .int (val i))] (.int ((List.range n).map val).sum) := by
  intro o s vs hs y Q E k
  replace y := VRs.consI y
  obtain ⟨_, _, rfl, y1, y2⟩ := y
  ·
    (first | ((first | replace y2 := VR.intI y2 | replace y2 := VR.strI y2); obtain ⟨_, rfl⟩ := y2) | ((first | replace y2 := VR.rawI y2 | replace y2 := VRs.nilI y2 | replace y2 := VR.boolI y2 | replace y2 := VR.noneI y2); subst y2) | cases y2)
    replace y1 := VR.listI y1
    obtain ⟨a, ws, rfl, pa, hl, hv⟩ := y1
    ·
      have hlen : ws.toArray.size = n := by rw [List.size_toArray, ← hv.length]; simp
      refine wpAny_with_toks (Nat.le_refl s.toks) (call_sum_walk (wpAny_pyIter_list hl ?_))
      obtain ⟨ol, eol, _⟩ := id hl
      have hI := size_none s.heap
      have hne : a ≠ s.heap.objs.size := get_ne eol hI
      have W := Walks.list (prog := c.G.prog) (w := c.G.w) (A := c.A.in1) o.hd s.heap.objs.size a hne ws.toArray
      rw [hlen] at W
      refine ⟨s.heap.objs.size, _, _, n, _, _, val, rfl, W, ⟨⟨_, Heap.get?_push_size _ rfl, rfl, rfl⟩, hl.push _⟩, fun b hb => ?_, fun i v hi => ?_, hfit, fun h' tk t' hk hle => ?_⟩
      · rcases List.mem_cons.mp hb with rfl | hb
        · rw [Heap.size_push]; exact Nat.lt_succ_self _
        · rw [List.mem_singleton.mp hb, Heap.size_push]; exact Nat.lt_succ_of_lt (Heap.lt_size eol)
      · have hi' : ws[i]? = some v := by simpa using hi
        have hlt : i < n := by
          have := (List.getElem?_eq_some_iff.mp hi').1
          rw [← hlen, List.size_toArray]; exact this
        have hx : ((List.range n).map fun i => AV.int (val i))[i]? = some (.int (val i)) := by rw [List.getElem?_map, List.getElem?_range hlt]; rfl
        obtain ⟨v', e', y'⟩ := hv.get i hx
        rw [hi'] at e'
        cases e'
        cases y'
        exact ⟨_, rfl⟩
      · rw [preSum_sum val n]
        refine k _ _ ?_ .int
        have x1 := ext_push o (s := s) (ob := { cls := .type "list_iterator", data := .fields #[.ref a, .int 0 0] })
        refine ⟨⟨⟨h', tk, rfl⟩, fun b ob n e => ?_, fun b ob e => ⟨ob, ?_⟩, hle⟩, fun P fr t => ?_⟩
        · exact hk b ob (fun q => get_ne e hI (List.mem_singleton.mp q)) (Heap.get?_push_of_some _ e)
        · exact hk b ob (fun q => get_ne e hI (List.mem_singleton.mp q)) (Heap.get?_push_of_some _ e)
        · exact o.g.tok _ _ _ t fun b ob _ e => hk b ob (fun q => get_ne e hI (List.mem_singleton.mp q)) (Heap.get?_push_of_some _ e)
theorem CaR.intB {b : Bool} : CaR c (.type "int") [.bool b] (.int (if b then 1 else 0)) := by
  intro o s vs hs y Q E k
  replace y := VRs.consI y
  obtain ⟨_, _, rfl, y1, y2⟩ := y
  · (first | ((first | replace y2 := VR.intI y2 | replace y2 := VR.strI y2); obtain ⟨_, rfl⟩ := y2) | ((first | replace y2 := VR.rawI y2 | replace y2 := VRs.nilI y2 | replace y2 := VR.boolI y2 | replace y2 := VR.noneI y2); subst y2) | cases y2); (first | ((first | replace y1 := VR.intI y1 | replace y1 := VR.strI y1); obtain ⟨_, rfl⟩ := y1) | ((first | replace y1 := VR.rawI y1 | replace y1 := VRs.nilI y1 | replace y1 := VR.boolI y1 | replace y1 := VR.noneI y1); subst y1) | cases y1); exact call_int_bool (k _ _ .tok .int)
theorem CaR.lenL {xs : List AV} (hn : xs.length ≤ 1000000) : CaR c (.builtin "len") [.list xs] (.int xs.length) := by
  intro o s vs hs y Q E k
  replace y := VRs.consI y
  obtain ⟨_, _, rfl, y1, y2⟩ := y
  ·
    (first | ((first | replace y2 := VR.intI y2 | replace y2 := VR.strI y2); obtain ⟨_, rfl⟩ := y2) | ((first | replace y2 := VR.rawI y2 | replace y2 := VRs.nilI y2 | replace y2 := VR.boolI y2 | replace y2 := VR.noneI y2); subst y2) | cases y2)
    replace y1 := VR.listI y1
    obtain ⟨a, ws, rfl, pa, hl, hv⟩ := y1
    ·
      have e := hv.length
      refine Calls.call_len_list hl (by rw [List.size_toArray, ← e]; omega) ?_
      rw [List.size_toArray, ← e]
      exact k _ _ .tok .int
theorem CaR.listT {xs : List AV} (hn : xs.length ≤ 1000000) : CaR c (.type "list") [.tup xs] (.list xs) := by
  intro o s vs hs y Q E k
  replace y := VRs.consI y
  obtain ⟨_, _, rfl, y1, y2⟩ := y
  ·
    (first | ((first | replace y2 := VR.intI y2 | replace y2 := VR.strI y2); obtain ⟨_, rfl⟩ := y2) | ((first | replace y2 := VR.rawI y2 | replace y2 := VRs.nilI y2 | replace y2 := VR.boolI y2 | replace y2 := VR.noneI y2); subst y2) | cases y2)
    replace y1 := VR.tupI y1
    obtain ⟨a, ws, rfl, pa, hl, hv⟩ := y1
    ·
      obtain ⟨ob, e, hc, n, hd⟩ := hl
      refine call_list_seq a (.inr rfl) e hc hd (fun h' c' hk hg => ?_) (by rw [List.size_toArray, ← hv.length]; exact Nat.le_trans hn (by decide))
      have x : Ext c.G s { s with heap := h' } := Ext.of (tk := s.toks) o.g hk
      exact k _ _ x (.list (o.fresh s _ hs (size_none _)) ⟨_, hg, rfl, _, rfl⟩ (hv.ext o x))
end
noncomputable def objAt (P : Params) (a : Addr) : Obj := ((fr.heap_1 P).lookup a).getD default
noncomputable def fdAt (P : Params) (a : Addr) : FuncData := match (objAt P a).data with | .func fd => fd | _ => default
noncomputable def bodyAt (P : Params) (a : Addr) : List Stmt := match (fdAt P a).body with | .stmts b => b | _ => []
structure GK (G : G0) : Prop extends G.Ok where
  K : G.K = fr.heap_1 G.w.params
theorem GK.get {G : G0} (g : GK G) {a : Addr} {o : Obj} (h : (fr.heap_1 G.w.params).lookup a = some o) : G.g.get? a = some o := g.X a o (by rw [g.K]; exact h)
theorem GK.glob {G : G0} (g : GK G) {x : Str} {r : Option Value} (h : nsIn (fr.heap_1 G.w.params) mainGlobals x = some r) : nsIn G.K mainGlobals x = some r := by rw [g.K]; exact h
noncomputable def intsA (l : List Int) : AV := .list (l.map .int)
noncomputable def pipesA (ps : List (Int × Int)) : AV := .list (ps.map fun p => .tup [.int p.1, .int p.2])
noncomputable def endsA (es : List (List Int)) : AV := .list (es.map intsA)
noncomputable def nth (l : List Int) (i : Int) : Int := (l[i.toNat]?).getD 0
noncomputable def nthL (l : List (List Int)) (i : Int) : List Int := (l[i.toNat]?).getD []
noncomputable def nthP (l : List (Int × Int)) (i : Int) : Int × Int := (l[i.toNat]?).getD (0, 0)
theorem map_get {α : Type} {l : List α} {f : α → AV} {i : Nat} (d : α) (h : i < l.length) : (l.map f)[i]? = some (f ((l[i]?).getD d)) := by
  rw [List.getElem?_map, List.getElem?_eq_getElem h]
  rfl
theorem intsA_get {l : List Int} {i : Int} (h0 : 0 ≤ i) (h : i < l.length) : (l.map AV.int)[i.toNat]? = some (.int (nth l i)) := map_get 0 (by omega)
theorem pipesA_get {l : List (Int × Int)} {i : Int} (h0 : 0 ≤ i) (h : i < l.length) : (l.map fun p : Int × Int => AV.tup [.int p.1, .int p.2])[i.toNat]? = some (.tup [.int (nthP l i).1, .int (nthP l i).2]) := map_get (0, 0) (by omega)
theorem endsA_get {l : List (List Int)} {i : Int} (h0 : 0 ≤ i) (h : i < l.length) : (l.map intsA)[i.toNat]? = some (intsA (nthL l i)) := map_get [] (by omega)
section
variable {c : Cx}
theorem EvE.comp0 {elt target iter : Expr} {scope : Scope} {pos : Pos} {n : Nat} {bs : Nat → List (Str × AV)} {Tg : Env → List (Str × Addr) → (Addr → Prop) → Prop} {f : Nat → AV}
    (hi : EvG c iter target n bs Tg) (hn : n ≤ 1000000) (hnd : (scope.names.map Prod.fst).Nodup)
    (hfree : (scope.names.map Prod.fst).Nodup → c.Ok → ∀ p ∈ scope.names, p.2 = .free → (c.env.cells.lookup p.1).isSome = true)
    (htg : (scope.names.map Prod.fst).Nodup → ∀ C P', FOk (innerEnv c.env scope C) (ownOf scope C) P' → Tg (innerEnv c.env scope C) (ownOf scope C) P')
    (hb : (scope.names.map Prod.fst).Nodup → c.Ok → ∀ C MU i, i < n → (∀ a ∈ (ownOf scope C).map (·.2), a ∉ Tb) → EvE (c.inner scope C MU (bs i)) elt (f i))
    (hk : scope.kind = .function := by rfl) (hs : ∀ x, foldedSetIterable iter c.env x = pure x := by intro _; rfl) :
    EvE c (.ListComp elt [⟨target, iter, [], 0⟩] scope pos) (.list ((List.range n).map f)) := by
  have := EvE.comp (elt := elt) (ifs := []) (scope := scope) (pos := pos) (t := fun _ => true) (f := f) hi ⟨hn, hk, hnd, hfree hnd, htg hnd, fun o C MU i hi ha => ⟨.nil, fun _ => hb hnd o C MU i hi ha⟩⟩ hs
  rwa [List.filter_eq_self.mpr (by simp)] at this
theorem EvE.comp1 {elt target iter e : Expr} {scope : Scope} {pos : Pos} {n : Nat} {bs : Nat → List (Str × AV)} {Tg : Env → List (Str × Addr) → (Addr → Prop) → Prop} {t : Nat → Bool} {f : Nat → AV}
    (hi : EvG c iter target n bs Tg) (hn : n ≤ 1000000) (hnd : (scope.names.map Prod.fst).Nodup)
    (hfree : (scope.names.map Prod.fst).Nodup → c.Ok → ∀ p ∈ scope.names, p.2 = .free → (c.env.cells.lookup p.1).isSome = true)
    (htg : (scope.names.map Prod.fst).Nodup → ∀ C P', FOk (innerEnv c.env scope C) (ownOf scope C) P' → Tg (innerEnv c.env scope C) (ownOf scope C) P')
    (hb : (scope.names.map Prod.fst).Nodup → c.Ok → ∀ C MU i, i < n → (∀ a ∈ (ownOf scope C).map (·.2), a ∉ Tb) → EvT (c.inner scope C MU (bs i)) e (t i) ∧ (t i = true → EvE (c.inner scope C MU (bs i)) elt (f i)))
    (hk : scope.kind = .function := by rfl) (hs : ∀ x, foldedSetIterable iter c.env x = pure x := by intro _; rfl) :
    EvE c (.ListComp elt [⟨target, iter, [e], 0⟩] scope pos) (.list (((List.range n).filter t).map f)) :=
  EvE.comp (elt := elt) (ifs := [e]) (scope := scope) (pos := pos) (t := t) (f := f) hi ⟨hn, hk, hnd, hfree hnd, htg hnd, fun o C MU i hi ha => ⟨.one (hb hnd o C MU i hi ha).1, (hb hnd o C MU i hi ha).2⟩⟩ hs
theorem EvE.ifI {t a b : Expr} {pos : Pos} {x : Bool} {n m : Int} (h : EvT c t x) (h1 : x = true → EvE c a (.int n)) (h2 : x = false → EvE c b (.int m)) : EvE c (.IfExp t a b pos) (.int (if x = true then n else m)) := by
  have := EvE.ifexp (pos := pos) h h1 h2
  cases x <;> exact this
theorem nH {scope : Scope} {C : Addr} {MU : List Addr} {σ : List (Str × AV)} {x : Str} {p : Pos} {r : AV} (hnd : (scope.names.map Prod.fst).Nodup) (hv : σ.lookup x = some r := by exact rfl) (hx : scope.names.lookup x = some .local := by exact rfl) (hd : (x == ("__debug__" : Str)) = false := by rfl) : EvE (c.inner scope C MU σ) (.Name x p) r :=
  EvE.name (Has.here hnd hv hx (.inl rfl)) hd
theorem nF {scope : Scope} {C : Addr} {MU : List Addr} {σ : List (Str × AV)} {x : Str} {p : Pos} {r : AV} (o : c.Ok) (hnd : (scope.names.map Prod.fst).Nodup) (h : CellHas c x r) (hx : scope.names.lookup x = some .free := by exact rfl) (hd : (x == ("__debug__" : Str)) = false := by rfl) (hcd : (x == ("__classdict__" : Str)) = false := by rfl) : EvE (c.inner scope C MU σ) (.Name x p) r :=
  EvE.name (Has.free o h hnd hx hcd) hd
end
section
variable {fc : FC} {s0 : Shared} {σ : List (Str × AV)} {β : List Item}
theorem nL (W : fc.Ok) {x : Str} {p : Pos} {r : AV} (hv : σ.lookup x = some r := by exact rfl) (hk : fc.env.kindOf x = some .local := by exact rfl) (hd : (x == ("__debug__" : Str)) = false := by rfl) : EvE (cx fc s0 σ β) (.Name x p) r := EvE.name ((Has.loc hv hk).big W) hd
theorem nC (W : fc.Ok) {x : Str} {p : Pos} {r : AV} (hk : ∃ a, fc.own.lookup x = some a) (hv : σ.lookup x = some r := by exact rfl) (hd : (x == ("__debug__" : Str)) = false := by rfl) : EvE (cx fc s0 σ β) (.Name x p) r := EvE.name ((Has.cel W hv hk).big W) hd
theorem cC (W : fc.Ok) {x : Str} {r : AV} (hk : ∃ a, fc.own.lookup x = some a) (hv : σ.lookup x = some r := by exact rfl) : CellHas (cx fc s0 σ β) x r := (CellHas.cel W hv hk).big W
theorem CellHas.isS {c : Cx} (o : c.Ok) {x : Str} {r : AV} (h : CellHas c x r) : (c.env.cells.lookup x).isSome = true := by
  obtain ⟨a, ha, _⟩ := h o
  rw [ha]; rfl
end
theorem free3 {cells : List (Str × Addr)} {names : List (Str × NameKind)} (h : (names.all fun p => if p.2 == .free then (cells.lookup p.1).isSome else true) = true) : ∀ p ∈ names, p.2 = .free → (cells.lookup p.1).isSome = true := fun p hp e => by
  have := List.all_eq_true.mp h p hp
  rw [e] at this
  simpa using this
noncomputable def TabD (Q : Addr → Prop) (h : Heap) (tab : Addr) (pos : Pos) (qual : Str) : Prop :=
  h.get? tab = some (tabObj #[]) ∨ ∃ c', h.get? tab = some (tabObj #[rawInt pos.line, rawInt pos.col, .ref c']) ∧ Q c' ∧ h.CodeRec (.ref c') qual
noncomputable def Item.obj (f : Addr) (ob : Obj) : Item where
  ad := []
  pr := fun P h τ => P f ∧ h.get? f = some ob
  fr := fun P P' h h' τ τ' ⟨p, e⟩ hk hp ht => ⟨hp f ob p e, hk f ob (.inl p) e⟩
  lv := fun P h τ _ b hb => nomatch hb
noncomputable def Item.code (cdv : Value) (qual : Str) : Item where
  ad := []
  pr := fun P h τ => ∃ c o vs t, cdv = .ref c ∧ P c ∧ h.get? c = some o ∧ o.data = .fields vs ∧ vs[1]? = some (.str qual t)
  fr := fun P P' h h' τ τ' ⟨c, o, vs, t, e1, p, e2, e3, e4⟩ hk hp ht => ⟨c, o, vs, t, e1, hp c o p e2, hk c o (.inl p) e2, e3, e4⟩
  lv := fun P h τ _ b hb => nomatch hb
section
variable {fc : FC} {s0 s : Shared} {σ : List (Str × AV)} {β : List Item} {Post : Flow → Shared → Prop} {rest : List Stmt}
theorem FS.add0 (W : fc.Ok) (h : FS fc s0 σ β s) (i : Item) (e : i.ad = []) (hp : i.pr (PF fc β) s.heap s.toks) : FS fc s0 σ (i :: β) s := by
  have pf : PF fc (i :: β) = PF fc β := funext fun a => propext (by rw [PF_cons, e]; simp)
  refine h.add W i (fun b hb => by rw [e] at hb; cases hb) (.refl s) (by rw [pf]; exact hp) fun P f t => W.g.tmono _ _ _ (h.tabs P f t) fun a _ p _ => ⟨p, by rw [e]; simp⟩
theorem Tri.def (W : fc.Ok) {name : Str} {args : Arguments} {body : List Stmt} {scope : Scope} {pos : Pos} {c tab : Addr} {qual : Str} {clos : List (Str × Addr)} (hdef : defaultsOf args fc.env = ([], [])) (hann : annTrees args none fc.env = [])
    (hcode : fc.env.code = .ref c) (C : CodeHd fc.G.g c tab) (htab : tab ∈ Tb) (hget : ∀ Q h, fc.G.TO Q h → TabD Q h tab pos qual)
    (hput : ∀ (Q : Addr → Prop) (h h' : Heap) c', fc.G.TO Q h → (∀ b o, b ≠ tab → h.get? b = some o → h'.get? b = some o) → h'.get? tab = some (tabObj #[rawInt pos.line, rawInt pos.col, .ref c']) → Q c' → h'.CodeRec (.ref c') qual → fc.G.TO Q h')
    (hq : qualnameIn fc.env name name = qual) (hcl : closureFor scope fc.env = pure clos) (hx : Kd fc.env fc.own name)
    (k : ∀ f cdv doc ctv pm, Tri fc (FS fc s0 ((name, .raw (.ref f)) :: σ) (Item.obj f { cls := .type "function", data := .func (fnX name qual args body scope clos .none .none doc pm none cdv ctv) } :: Item.code cdv qual :: β)) rest Post) :
    Tri fc (FS fc s0 σ β) (.FunctionDef name args body [] none [] scope none name pos :: rest) Post := Tri.st fun E s hs => by
  have gl := hs.glob W
  have T := gl.top W.g
  have hCs : CodeHd s.heap c tab := C.keeps gl.keep
  obtain ⟨bm, ob, b1, b2, b3, b4, b5, b6⟩ := T.bmain
  have tOb : ∃ ps, s.heap.get? tab = some (tabObj ps) := by
    rcases hget _ _ gl.tabs with e | ⟨c', e, _⟩
    · exact ⟨_, e⟩
    · exact ⟨_, e⟩
  obtain ⟨ps0, tO⟩ := tOb
  have hgP : mainGlobals ≠ tab := fun q => by
    obtain ⟨o, es, ep, e, hd, _⟩ := T.g
    rw [q, tO] at e; cases e; cases hd
  have hbP : bm ≠ tab := fun q => by
    rw [q, tO] at b3; cases b3; cases b4
  have hbG : bm ≠ mainGlobals := fun q => by
    obtain ⟨o, es, ep, e, hd, _⟩ := T.g
    rw [q, e] at b3; cases b3
    rw [hd] at b6; cases b6
  have BA : s.heap.BuiltinsAt fc.G.mg tab := ⟨bm, ob, b1, b2, hbG, hbP, b3, b4, b5, b6⟩
  rw [exec_def, hdef, hann, hq]
  refine wpAny_bind (wpAny_standAt (wpAny_bind (wpAny_holding ?_)))
  refine wpAny_bind (wpAny_pure ?_)
  refine wpAny_bind (wpAny_holding (wpAny_pure ?_))
  refine wpAny_holding (wpAny_bind (wpAny_pure ?_))
  have fin : ∀ (f : Addr) cdv doc ctv pm s1, Ext fc.G s s1 → s.heap.get? f = none → s1.heap.get? f = some { cls := .type "function", data := .func (fnX name qual args body scope clos .none .none doc pm none cdv ctv) } → (Item.code cdv qual).pr (PF fc β) s1.heap s1.toks →
      wpAny (model fc.G.prog fc.G.w) fc.A (do standAt pos; bindName fc.env name (.ref f); pure Flow.next) (Sq fc rest Post) E s1 := fun f cdv doc ctv pm s1 x e ef hc => by
    have h1 := hs.ext W x
    have h2 := h1.add0 W (Item.code cdv qual) rfl hc
    have h3 := h2.add0 W (Item.obj f { cls := .type "function", data := .func (fnX name qual args body scope clos .none .none doc pm none cdv ctv) }) rfl ⟨?_, ef⟩
    · exact wpAny_bind (wpAny_standAt (wpAny_bind (wpAny_bindName (h3.store W hx .raw fun s4 h4 => wpAny_pure fun E' => k f cdv doc ctv pm E' s4 h4))))
    · exact PF_cons.mpr ⟨hs.fresh W e, by simp [Item.code]⟩
  rcases hget _ _ gl.tabs with e | ⟨c', e, pc, hrec⟩
  · refine wpAny_with_toks (Nat.le_refl s.toks) (makeFunction_K (mg := fc.G.mg) hcl W.eg T.g hcode hCs e trivial rfl hgP BA fun c' ctv doc h' tk hx' hge hlt hrec htb => fun hle => ?_)
    refine wpAny_mono (?_ : wpAny _ _ _ _ E _) (fun _ _ h => h) fun _ _ h => h
    have up : ∀ b o, b ∉ Tb → s.heap.get? b = some o → h'.get? b = some o := fun b o hb eb => hx' b o (fun q => hb (q ▸ htab)) eb
    have nf : s.heap.get? h'.objs.size = none := by
      cases q : s.heap.get? h'.objs.size with
      | none => rfl
      | some o =>
        by_cases ht : h'.objs.size = tab
        · rw [ht] at hlt
          have : h'.get? tab = none := ge_none (by rw [ht]; exact Nat.le_refl _)
          rw [this] at htb; cases htb
        · have := hx' _ o ht q
          exact absurd (Heap.lt_size this) (Nat.lt_irrefl _)
    refine fin h'.objs.size (.ref c') doc ctv _ _ ⟨⟨⟨_, tk, rfl⟩, fun b o hb eb => Heap.get?_push_of_some _ (up b o hb eb), fun b o eb => ?_, hle⟩, fun P fr t => ?_⟩ nf (Heap.get?_push_size _ rfl) ?_
    · by_cases ht : b = tab
      · exact ⟨_, ht ▸ Heap.get?_push_of_some _ htb⟩
      · exact ⟨o, Heap.get?_push_of_some _ (hx' b o ht eb)⟩
    · refine hput P s.heap _ c' t (fun b o hb eb => Heap.get?_push_of_some _ (hx' b o hb eb)) (Heap.get?_push_of_some _ htb) (fr c' (ge_none hge)) (hrec.push _)
    · obtain ⟨c2, o2, vs2, t2, e1, e2, e3, e4⟩ := hrec
      cases e1
      exact ⟨c', o2, vs2, t2, rfl, hs.fresh W (ge_none hge), Heap.get?_push_of_some _ e2, e3, e4⟩
  · refine wpAny_with_toks (Nat.le_refl s.toks) (makeFunction_hit (mg := fc.G.mg) (cv := .ref c') hcl W.eg T.g hcode hCs e trivial ?_ BA fun ctv doc h' tk hk hsz => fun hle => ?_)
    · show codeAmong pos [rawInt pos.line, rawInt pos.col, .ref c'] = _
      simp [codeAmong, rawInt]
    · refine wpAny_mono (?_ : wpAny _ _ _ _ E _) (fun _ _ h => h) fun _ _ h => h
      have nf : s.heap.get? h'.objs.size = none := ge_none hsz
      refine fin h'.objs.size (.ref c') doc ctv _ _ (Ext.of (tk := tk) W.g (fun b o eb => Heap.get?_push_of_some _ (hk b o eb)) hle) nf (Heap.get?_push_size _ rfl) ?_
      obtain ⟨c2, o2, vs2, t2, e1, e2, e3, e4⟩ := hrec
      cases e1
      exact ⟨c', o2, vs2, t2, rfl, pc, Heap.get?_push_of_some _ (hk _ _ e2), e3, e4⟩
end
noncomputable def cloEnv (fd : FuncData) (L f : Addr) : Env := newEnv fd.scope L fd.globals fd.closure (fd.qualname ++ ".<locals>.") (some f) fd.code none fd.builtins
noncomputable def fcC (G : G0) (A : Around) (fd : FuncData) (L f : Addr) (O : List Addr) : FC := ⟨G, A, cloEnv fd L f, [], O⟩
noncomputable def envS (fd : FuncData) (sc : Scope) (L f : Addr) : Env := { scope := sc, locals := L, globals := fd.globals, cells := fd.closure, qual := fd.qualname ++ ".<locals>.", func := some f, code := fd.code, frame := some L, builtins := fd.builtins }
noncomputable def fcCS (G : G0) (A : Around) (fd : FuncData) (sc : Scope) (L f : Addr) (O : List Addr) : FC := ⟨G, A, envS fd sc L f, [], O⟩
theorem reverse_look {vs : List (Str × Value)} (hn : (vs.map Prod.fst).Nodup) {x v} (h : (x, v) ∈ vs) : vs.reverse.lookup x = some v := by
  refine lookup_pw ?_ (List.mem_reverse.mpr h)
  rw [List.pairwise_reverse]
  exact (pw_of_nodup hn).imp fun h => h.symm
theorem clo_call0 {G : G0} (o : G.Ok) {A : Around} {f : Addr} {ob : Obj} {fd : FuncData} {body : List Stmt} {k : Nat} {rs : List AV} {vs : List Value} {s : Shared} {O : List Addr} {β0 : List Item} {Q : Value → Shared → Prop} {E : Value → Shared → Prop}
    (names : List Str) (rm : Rm A (k + 1)) (gl : Glob G NT s) (hv : VRs s.heap s.toks (fun a => NT a ∧ a ∉ O) rs vs) (ho : s.heap.get? f = some ob) (hd : ob.data = .func fd) (hcd : s.heap.CodeRec fd.code fd.qualname)
    (hb : fd.body = .stmts body) (hg : fd.globals = mainGlobals) (hbu : fd.builtins = builtinsNs) (hcell : ∀ x ∈ fd.scope.names, x.2 ≠ .cell) (hnn : names.Nodup) (hl : rs.length = names.length)
    (hbind : bindArgs fd ⟨vs, []⟩ = pure (names.zip vs)) (hk : ∀ x ∈ names, fd.scope.names.lookup x = some .local)
    (hO : ∀ a ∈ O, a ∉ Tb ∧ G.g.get? a = none) (hβ : ∀ i ∈ β0, (∀ b ∈ i.ad, b ∈ O) ∧ i.pr (fun a => NT a ∧ a ∉ O) s.heap s.toks) (hOβ : ∀ a ∈ O, ∃ i ∈ β0, a ∈ i.ad) (hsep : β0.Pairwise fun i j => ∀ b ∈ i.ad, b ∉ j.ad)
    (hTO : ∀ P : Addr → Prop, G.TO P s.heap → G.TO (fun a => P a ∧ a ∉ O) s.heap)
    (hbody : ∀ L, (fcC G (A.deeper (cloEnv fd L f)) fd L f O).Ok → Tri (fcC G (A.deeper (cloEnv fd L f)) fd L f O) (FS (fcC G (A.deeper (cloEnv fd L f)) fd L f O) s (names.zip rs) β0) body (fun fl s' => Q (match fl with | .ret v => v | _ => .none) s'))
    (hco : fd.scope.isCoroutine = false := by rfl) (hgen : fd.scope.isGenerator = false := by rfl) (hsk : fd.scope.kind = .function := by rfl) :
    wpAny (model G.prog G.w) A (call (.ref f) vs []) Q E s := by
  have hlen : vs.length = names.length := by rw [← hv.length]; exact hl
  have T := gl.top o
  have keys : ((names.zip vs).map Prod.fst).Nodup := by rw [zip_keys hlen]; exact hnn
  refine wpAny_call (codeAny_call_function (by have := rm.2.1; omega) ho hd hco hgen hb hcd ?_)
  rw [hbind]
  refine wpAny_pure (wpAny_newFunctionEnv hcell (fun x hx => ?_) (fun h' hns hsb => ⟨T.nolimit.fresh _ hsb, codeAny_func ?_⟩) hsk)
  · have := List.mem_map_of_mem (f := Prod.fst) hx
    rw [zip_keys hlen] at this
    exact hk _ this
  · generalize hL : s.heap.objs.size = L at hns hsb ⊢
    have newL : s.heap.get? L = none := ge_none (by rw [hL]; exact Nat.le_refl _)
    have keep : ∀ b ob, s.heap.get? b = some ob → h'.get? b = some ob := fun b ob e => hsb.extBut b ob (fun q => by rw [q, newL] at e; cases e) (Heap.get?_push_of_some _ e)
    have muE : ∀ b, b ∈ MUs (fcC G (A.deeper (cloEnv fd L f)) fd L f O) β0 ↔ b = L ∨ b ∈ O := fun b => by
      rw [mem_MUs]
      constructor
      · rintro (h | ⟨i, hi, h⟩)
        · exact .inl (by simpa [FAd, fcC, cloEnv, newEnv] using h)
        · exact .inr ((hβ i hi).1 b h)
      · rintro (h | h)
        · exact .inl (by subst h; exact .head _)
        · obtain ⟨i, hi, q⟩ := hOβ b h
          exact .inr ⟨i, hi, q⟩
    have ltL : L ∉ Tb := fun q => by
      obtain ⟨ob', eo⟩ := o.tlive _ _ gl.tabs L q
      rw [newL] at eo; cases eo
    have pfU : ∀ b ob', NT b ∧ b ∉ O → s.heap.get? b = some ob' → PF (fcC G (A.deeper (cloEnv fd L f)) fd L f O) β0 b := fun b ob' p e => ⟨p.1, fun q => by
      rcases (muE b).mp q with q | q
      · rw [q, newL] at e; cases e
      · exact p.2 q⟩
    have W : (fcC G (A.deeper (cloEnv fd L f)) fd L f O).Ok := by
      refine ⟨o, (deeper_rm rm).le (Nat.zero_le _), ⟨hsk, fun x a h => (nomatch h), fun p hp => (nomatch hp), fun x a h => (nomatch h), .nil, fun p hp => (nomatch hp), fun b hb' => ⟨fun p => p.2 (mem_MUs.mpr (.inl hb')), ?_⟩⟩, hg, hbu, hO⟩
      rw [List.mem_singleton.mp hb']; exact ltL
    refine wpAny_mono (hbody L W (fun e s' => wpAny (model G.prog G.w) (A.deeper (cloEnv fd L f)) (leaving (cloEnv fd L f) e) (fun _ s'' => _) (fun e' s'' => _) s') { s with heap := h', toks := s.toks + (names.zip vs).length } ?_) (fun fl s' h => h) fun _ _ e => e
    refine ⟨(Kp.of (tk := s.toks + (names.zip vs).length) keep), fun P fr t => ?_, fun b hb' => ?_, fun b hb' => ?_, gl, ⟨⟨_, hns, fun x r e hx => ?_⟩, fun x a e => (nomatch e)⟩, fun i hi => ?_, hsep, fun i hi b hb' q => ?_⟩
    · refine o.tok _ _ _ (o.tmono _ _ _ (hTO P t) fun a ob' p e => ⟨p.1, fun q => ?_⟩) fun a ob' _ e => keep a ob' e
      rcases (muE a).mp q with q | q
      · rw [q, newL] at e; cases e
      · exact p.2 q
    · rcases (muE b).mp hb' with q | q
      · obtain ⟨ob', _, _, eo, _⟩ := hns
        exact ⟨ob', q ▸ eo⟩
      · obtain ⟨i, hi, q⟩ := hOβ b q
        obtain ⟨ob', eo⟩ := i.lv _ _ _ (hβ i hi).2 b q
        exact ⟨ob', keep b ob' eo⟩
    · rcases (muE b).mp hb' with q | q
      · exact .inr (q ▸ newL)
      · exact .inl q
    · obtain ⟨v, e', y⟩ := zip_look hv e
      exact ⟨v, reverse_look keys (mem_of_lookup e'), y.up (fun a ob' _ e => keep a ob' e) pfU (Nat.le_add_right _ _)⟩
    · exact i.fr _ _ _ _ _ _ (hβ i hi).2 (fun b ob' _ e => keep b ob' e) pfU (Nat.le_add_right _ _)
    · have q1 : b = L := by simpa [FAd, fcC, cloEnv, newEnv] using q
      obtain ⟨ob', eo⟩ := i.lv _ _ _ (hβ i hi).2 b hb'
      rw [q1, newL] at eo; cases eo
theorem clo_call {G : G0} (o : G.Ok) {A : Around} {f : Addr} {ob : Obj} {fd : FuncData} {sc : Scope} {body : List Stmt} {k : Nat} {rs : List AV} {vs : List Value} {s : Shared} {O : List Addr} {β0 : List Item} {Q : Value → Shared → Prop} {E : Value → Shared → Prop}
    (names : List Str) (hsc : fd.scope = sc) (rm : Rm A (k + 1)) (gl : Glob G NT s) (hv : VRs s.heap s.toks (fun a => NT a ∧ a ∉ O) rs vs) (ho : s.heap.get? f = some ob) (hd : ob.data = .func fd) (hcd : s.heap.CodeRec fd.code fd.qualname)
    (hb : fd.body = .stmts body) (hg : fd.globals = mainGlobals) (hbu : fd.builtins = builtinsNs) (hcell : ∀ x ∈ sc.names, x.2 ≠ .cell) (hnn : names.Nodup) (hl : rs.length = names.length)
    (hbind : bindArgs fd ⟨vs, []⟩ = pure (names.zip vs)) (hk : ∀ x ∈ names, sc.names.lookup x = some .local)
    (hO : ∀ a ∈ O, a ∉ Tb ∧ G.g.get? a = none) (hβ : ∀ i ∈ β0, (∀ b ∈ i.ad, b ∈ O) ∧ i.pr (fun a => NT a ∧ a ∉ O) s.heap s.toks) (hOβ : ∀ a ∈ O, ∃ i ∈ β0, a ∈ i.ad) (hsep : β0.Pairwise fun i j => ∀ b ∈ i.ad, b ∉ j.ad)
    (hTO : ∀ P : Addr → Prop, G.TO P s.heap → G.TO (fun a => P a ∧ a ∉ O) s.heap)
    (hbody : ∀ L env, (fcCS G (A.deeper env) fd sc L f O).Ok → Tri (fcCS G (A.deeper env) fd sc L f O) (FS (fcCS G (A.deeper env) fd sc L f O) s (names.zip rs) β0) body (fun fl s' => Q (match fl with | .ret v => v | _ => .none) s'))
    (hco : fd.scope.isCoroutine = false := by rfl) (hgen : fd.scope.isGenerator = false := by rfl) (hsk : fd.scope.kind = .function := by rfl) :
    wpAny (model G.prog G.w) A (call (.ref f) vs []) Q E s := by
  subst hsc
  exact clo_call0 o names rm gl hv ho hd hcd hb hg hbu hcell hnn hl hbind hk hO hβ hOβ hsep hTO (fun L W => hbody L _ W) hco hgen hsk
theorem CellHas.clo {fc : FC} {s0 : Shared} {σ β} (W : fc.Ok) {x : Str} {a : Addr} {v : Value} {r : AV} (hc : fc.env.cells.lookup x = some a) (hT : a ∉ Tb ++ fc.O) (h0 : s0.heap.IsCell a (some v)) (hv : VR s0.heap s0.toks (fun b => NT b ∧ b ∉ fc.O) r v) : CellHas (cs fc s0 σ β) x r := fun o => by
  refine ⟨a, hc, fun q => hT (List.mem_append_left _ q), fun s hs => ⟨v, ?_, ?_⟩⟩
  · obtain ⟨ob, e, d⟩ := h0
    exact ⟨ob, FS.kp hs |>.keep a ob hT e, d⟩
  · refine hv.up (fun b ob p e => (FS.kp hs).keep b ob (fun q => (List.mem_append.mp q).elim p.1 p.2) e) (fun b ob p e => ⟨p.1, fun q => ?_⟩) (FS.kp hs).le
    rcases FS.new hs b q with q | q
    · exact p.2 q
    · rw [q] at e; cases e
theorem nFree {fc : FC} {s0 : Shared} {σ β} (W : fc.Ok) {x : Str} {p : Pos} {r : AV} (h : CellHas (cs fc s0 σ β) x r) (hk : fc.env.kindOf x = some .free := by exact rfl) (hd : (x == ("__debug__" : Str)) = false := by rfl) (hcd : (x == ("__classdict__" : Str)) = false := by rfl) : EvE (cs fc s0 σ β) (.Name x p) r := EvE.name (fun o s hs => by
  obtain ⟨a, ha, ht, k⟩ := h o
  obtain ⟨v, hc, y⟩ := k s hs
  exact ⟨v, y, fun Q E q => wpAny_loadName_free o.kind hk ha hc q hcd⟩) hd
theorem meth_eval {M : Model} {A : Around} {env : Env} {o : Expr} {name : Str} {apos pos : Pos} {args : List Expr} {id : String} {s : Shared} {Q : Value → Shared → Prop} {E : Value → Shared → Prop}
    (h : wpAny M A (eval o env) (fun ov s₁ => (∀ (pl : Sem Bool) (Q' : Value × List Value → Shared → Prop), Q' (.builtin id, [ov]) s₁ → wpAny M A (getMethod ov name pl) Q' E s₁) ∧ wpAny M A (callWith pos (.builtin id) [ov] (backTo pos (starEach args env)) []) Q E s₁) E s)
    (hbase : attributeBase o name env (eval o env) = eval o env) (hform : methodCallForm (args.length + 0) (backTo pos (starEach args env)) [] = true) (hline : (apos.endLine == pos.line) = true) :
    wpAny M A (eval (.Call (.Attribute o name apos) args [] pos) env) Q E s := by
  rw [arm_eval_Call, hbase]
  refine wpAny_bind (wpAny_mono h (fun ov s₁ h₁ => ?_) fun _ _ e => e)
  refine wpAny_bind (wpAny_standAt ?_)
  have hpos : methodCallPos true o env apos pos = pure pos := by unfold methodCallPos; simp [hline]
  have hkw : backToKw pos (keywordEach [] env) = [] := rfl
  unfold methodCall
  rw [hkw, show args.length + ([] : List Keyword).length = args.length + 0 from rfl, hform]
  refine wpAny_bind (wpAny_holding (h₁.1 _ _ ?_))
  exact wpAny_bind (wpAny_of_eq hpos h₁.2)
noncomputable def MeR (c : Cx) (r : AV) (name : Str) (id : String) : Prop := c.Ok → ∀ s v E, c.Φ s → VR s.heap s.toks c.P r v → ∀ (pl : Sem Bool) (Q : Value × List Value → Shared → Prop), Q (.builtin id, [v]) s → wpAny c.M c.A (getMethod v name pl) Q E s
theorem EvE.meth {c : Cx} {o : Expr} {name : Str} {apos pos : Pos} {args : List Expr} {id : String} {r res : AV} {rs : List AV} (h : EvE c o r) (hm : MeR c r name id) (ha : EvA c args rs) (hc : CaR c (.builtin id) (r :: rs) res)
    (hbase : attributeBase o name c.env (eval o c.env) = eval o c.env := by rfl) (hform : methodCallForm (args.length + 0) (backTo pos (starEach args c.env)) [] = true := by rfl) (hline : (apos.endLine == pos.line) = true := by rfl) :
    EvE c (.Call (.Attribute o name apos) args [] pos) res := fun ok s hs Q E k => by
  refine meth_eval (id := id) ?_ hbase hform hline
  refine h ok s hs _ _ fun v s1 x1 y1 => ⟨hm ok s1 v E (ok.stab _ _ hs x1) y1, ?_⟩
  refine callW ok (first := [v]) (ok.stab _ _ hs x1) (Callee.builtin) ha fun vs s2 x2 y2 => ?_
  exact hc ok s2 (v :: vs) (ok.stab _ _ hs (x1.trans x2)) (.cons (y1.ext ok x2) y2) _ _ fun r s3 x3 y3 => k r s3 ((x1.trans x2).trans x3) y3
theorem EvF.meth {c : Cx} {o : Expr} {name : Str} {apos pos : Pos} {args : List Expr} {id : String} {r res : AV} {rs : List AV} (h : EvE c o r) (hm : MeR c r name id) (ha : EvA c args rs)
    (hc : c.Ok → ∀ s vs, c.Φ s → VRs s.heap s.toks c.P (r :: rs) vs → ∀ Q E, (∀ v s', Ext c.G s s' → VR s'.heap s'.toks (fun a => s.heap.get? a = none) res v → Q v s') → wpAny c.M c.A (PySem.call (.builtin id) vs []) Q E s)
    (hbase : attributeBase o name c.env (eval o c.env) = eval o c.env := by rfl) (hform : methodCallForm (args.length + 0) (backTo pos (starEach args c.env)) [] = true := by rfl) (hline : (apos.endLine == pos.line) = true := by rfl) :
    EvF c (.Call (.Attribute o name apos) args [] pos) res := fun ok s Q E hs k => by
  refine meth_eval (id := id) ?_ hbase hform hline
  refine h ok s hs _ _ fun v s1 x1 y1 => ⟨hm ok s1 v E (ok.stab _ _ hs x1) y1, ?_⟩
  refine callW ok (first := [v]) (ok.stab _ _ hs x1) (Callee.builtin) ha fun vs s2 x2 y2 => ?_
  refine hc ok s2 (v :: vs) (ok.stab _ _ hs (x1.trans x2)) (.cons (y1.ext ok x2) y2) _ _ fun r s3 x3 y3 => k r s3 ((x1.trans x2).trans x3) (y3.mono (fun _ _ _ e => e) fun a p => (x1.trans x2).none p)
section
variable {c : Cx}
theorem MeR.bitlen {a : Int} : MeR c (.int a) "bit_length" "int.bit_length" := fun ok s v E hs y pl Q q => by
  (first | ((first | replace y := VR.intI y | replace y := VR.strI y); obtain ⟨_, rfl⟩ := y) | ((first | replace y := VR.rawI y | replace y := VRs.nilI y | replace y := VR.boolI y | replace y := VR.noneI y); subst y) | cases y); exact getMethod_int_bit_length q
theorem CaR.bitlen {a : Int} : CaR c (.builtin "int.bit_length") [.int a] (.int (Builtin.Int.intBits a)) := by
  intro o s vs hs y Q E k
  replace y := VRs.consI y
  obtain ⟨_, _, rfl, y1, y2⟩ := y
  · (first | ((first | replace y2 := VR.intI y2 | replace y2 := VR.strI y2); obtain ⟨_, rfl⟩ := y2) | ((first | replace y2 := VR.rawI y2 | replace y2 := VRs.nilI y2 | replace y2 := VR.boolI y2 | replace y2 := VR.noneI y2); subst y2) | cases y2); (first | ((first | replace y1 := VR.intI y1 | replace y1 := VR.strI y1); obtain ⟨_, rfl⟩ := y1) | ((first | replace y1 := VR.rawI y1 | replace y1 := VRs.nilI y1 | replace y1 := VR.boolI y1 | replace y1 := VR.noneI y1); subst y1) | cases y1); exact call_int_bit_length (k _ _ .tok .int)
theorem EvF.addL {l r : Expr} {pos : Pos} {xs ys : List AV} (h1 : EvE c l (.list xs)) (h2 : EvE c r (.list ys)) (a1 : xs.all AV.atom = true) (a2 : ys.all AV.atom = true) (hn : xs.length + ys.length ≤ 1000000) : EvF c (.BinOp l .Add r pos) (.list (xs ++ ys)) := fun o s Q E hs k => by
  refine wpAny_BinOp (h1.two h2 o hs fun v1 v2 s' x hs' y1 y2 => ?_)
  replace y1 := VR.listI y1
  obtain ⟨a, vs, rfl, pa, hl, hv⟩ := y1
  ·
    replace y2 := VR.listI y2
    obtain ⟨b, ws, rfl, pb, hl2, hv2⟩ := y2
    ·
      obtain ⟨⟨cls, dd, data, sl⟩, ho, hc, n, hd⟩ := id hl
      obtain ⟨⟨cls2, dd2, data2, sl2⟩, ho2, hc2, n2, hd2⟩ := id hl2
      simp only at hc hd hc2 hd2
      subst hc hd hc2 hd2
      have e : vs.toArray ++ ws.toArray = (vs ++ ws).toArray := by simp
      have l1 := hv.length
      have l2 := hv2.length
      refine concat_meets ⟨_, ho, rfl⟩ ⟨_, ho2, rfl⟩ noFill_list_add seq_list_add PySem.F.slot_list_add PySem.F.entry_list_add (PySem.F.args_list_add_2 _ _) (list_addW a b vs.toArray ws.toArray n n2 dd dd2 sl sl2 (by simp only [List.size_toArray]; exact Nat.le_trans (by omega) (show 1000000 ≤ sizeLine by decide))) ⟨ho, ho2, ?_⟩
      rw [e]
      have x2 := ext_push o (s := s') (ob := { cls := .type "list", data := .seq (vs ++ ws).toArray })
      exact k _ _ (x.trans x2) (.list (x.none (size_none _)) ⟨_, Heap.get?_push_size _ rfl, rfl, _, rfl⟩ ((hv.atoms a1).append (hv2.atoms a2)))
end
noncomputable def EvP (c : Cx) (e : Expr) (xs : List AV) : Prop := c.Ok → ∀ s Q E, c.Φ s → (∀ a vs n s', s.heap.get? a = none → Ext c.G s s' → IsL s'.heap a vs.toArray n → VRs s'.heap s'.toks (fun b => c.P b ∧ b ≠ a) xs vs → Q (.ref a) s') → wpAny c.M c.A (eval e c.env) Q E s
theorem EvP.list {c : Cx} {es pos rs} (h : EvA c es rs) (hn : rs.length ≤ 1000 := by decide) : EvP c (.List es pos) rs := fun o s Q E hs kk => by
  refine wpAny_List ?_
  refine h.ev o pos s _ _ hs fun vs s1 x1 y1 => ⟨?_, ?_⟩
  · rw [← y1.length]; exact Nat.le_trans hn (by decide)
  · have x2 := ext_push o (s := s1) (ob := { cls := .type "list", data := .seq vs.toArray })
    exact kk _ _ _ _ (x1.none (size_none _)) (x1.trans x2) (Heap.get?_push_size _ rfl) (y1.up (fun b o _ e => Heap.get?_push_of_some _ e) fun b o p e => ⟨p, get_ne e (size_none _)⟩)
theorem EvF.mulL {c : Cx} {l r : Expr} {pos : Pos} {x : AV} {n : Int} (h1 : EvP c l [x]) (h2 : EvE c r (.int n)) (ha : x.atom = true) (h0 : 0 ≤ n) (hn : n ≤ 1000000) : EvF c (.BinOp l .Mult r pos) (.list (List.replicate n.toNat x)) := fun o s Q E hs k => by
  refine wpAny_BinOp (h1 o s _ _ hs fun a vs m s1 ha' x1 hl hv => ?_)
  refine h2 o s1 (o.stab _ _ hs x1) _ _ fun v2 s2 x2 y2 => ?_
  cases y2 with
  | @int _ u =>
  replace hv := VRs.consI hv
  obtain ⟨v, _, rfl, yv, yn⟩ := hv
  ·
    (first | ((first | replace yn := VR.intI yn | replace yn := VR.strI yn); obtain ⟨_, rfl⟩ := yn) | ((first | replace yn := VR.rawI yn | replace yn := VRs.nilI yn | replace yn := VR.boolI yn | replace yn := VR.noneI yn); subst yn) | cases yn)
    have hl2 : IsL s2.heap a [v].toArray m := x2.keep a _ (o.pt a (o.fresh s a hs ha')) hl
    refine wpAny_binaryOp_repeat_ref (T := "list") (U := "int") (by decide) ⟨_, hl2, rfl⟩ (fun s' => typeIs_int s' n u) noFill_list_mul F.fills_int_mul F.slot_int_rmul repeat_list F.slot_int_index.lookup
      (call_meets F.slot_int_rmul (typeIs_int s2 n u) F.entry_int_rmul (F.args_int_rmul_2 _ _) (int___rmul___int_list n u a _ m)
        ⟨hl2, rfl, ⟨_, hl2, rfl⟩, call_meets F.slot_list_mul ⟨_, hl2, rfl⟩ F.entry_list_mul (F.args_list_mul_2 _ _)
          (AutoListH.list___mul___list_int_3 a _ m n u (by simp [Builtin.List.listFitsIndex]; omega) (by simp; omega) (by simp [Builtin.List.listTooLong, sizeLine]; omega))
          ⟨hl2, ?_⟩⟩)
    have e : ∀ (k : Nat) (acc : Array Value), List.foldl (fun x1 x2 => x1 ++ x2) acc (List.replicate k #[v]) = acc ++ (List.replicate k v).toArray := by
      intro k
      induction k with
      | zero => intro acc; simp
      | succ k ih => intro acc; rw [List.replicate_succ, List.foldl_cons, ih, List.replicate_succ]; apply Array.ext'; simp
    have ee : (List.foldl (fun x1 x2 => x1 ++ x2) #[] (List.replicate (if ([v].toArray).isEmpty = true then 0 else n.toNat) [v].toArray)) = (List.replicate n.toNat v).toArray := by
      rw [if_neg (by simp)]
      have := e n.toNat #[]
      simpa using this
    rw [ee]
    have x3 := ext_push o (s := s2) (ob := { cls := .type "list", data := .seq (List.replicate n.toNat v).toArray })
    refine k _ _ ((x1.trans x2).trans x3) (.list ((x1.trans x2).none (size_none _)) ⟨_, Heap.get?_push_size _ rfl, rfl, _, rfl⟩ ?_)
    have rep : ∀ k : Nat, VRs (s2.heap.push { cls := .type "list", data := .seq (List.replicate n.toNat v).toArray }) s2.toks (fun a => s.heap.get? a = none) (List.replicate k x) (List.replicate k v) := by
      intro k
      induction k with
      | zero => exact .nil
      | succ k ih => rw [List.replicate_succ, List.replicate_succ]; exact .cons (yv.atom ha x2.le) ih
    exact rep _
theorem VRs.rev {h : Heap} {τ : Nat} {P : Addr → Prop} : ∀ {xs vs}, VRs h τ P xs vs → VRs h τ P xs.reverse vs.reverse
  | _, _, .nil => .nil
  | _, _, .cons a t => by rw [List.reverse_cons, List.reverse_cons]; exact (VRs.rev t).append (.cons a .nil)
noncomputable def Item.plist (a : Addr) (xs : List AV) : Item where
  ad := [a]
  pr := fun P h τ => ∃ vs n, IsL h a vs.toArray n ∧ VRs h τ P xs vs
  fr := fun P P' h h' τ τ' hh hk hp ht => by
    obtain ⟨vs, n, hl, hv⟩ := hh
    exact ⟨vs, n, hk a _ (.inr (.head _)) hl, hv.up (fun b o pb e => hk b o (.inl pb) e) hp ht⟩
  lv := fun P h τ hh b hb => by
    obtain ⟨vs, n, e, _⟩ := hh
    exact ⟨_, List.mem_singleton.mp hb ▸ e⟩
section
variable {fc : FC} {s0 : Shared} {σ : List (Str × AV)} {β : List Item} {Post : Flow → Shared → Prop} {rest : List Stmt}
theorem FS.addP {s s' : Shared} (W : fc.Ok) (h : FS fc s0 σ β s) {a : Addr} {xs : List AV} {vs : List Value} {n : Nat} (hn : s.heap.get? a = none) (x : Ext fc.G s s') (hl : IsL s'.heap a vs.toArray n) (hv : VRs s'.heap s'.toks (fun b => PF fc β b ∧ b ≠ a) xs vs) : FS fc s0 σ (Item.plist a xs :: β) s' := by
  have h1 := h.ext W x
  refine h.add W (Item.plist a xs) (fun b hb => List.mem_singleton.mp hb ▸ hn) x ⟨vs, n, hl, hv.mono (fun _ _ _ e => e) fun b p => PF_cons.mpr ⟨p.1, fun q => p.2 (List.mem_singleton.mp q)⟩⟩ fun P f t => ?_
  refine W.g.tmono _ _ _ (W.g.tsep _ _ a _ (h1.tabs P f t) hl fun us q => ?_) fun b _ p _ => ⟨p.1, fun q => p.2 (List.mem_singleton.mp q)⟩
  cases q
theorem Tri.asgP (W : fc.Ok) {x : Str} {p pos : Pos} {e : Expr} {xs : List AV} (h : EvP (cs fc s0 σ β) e xs) (hx : Kd fc.env fc.own x) (k : ∀ a, Tri fc (FS fc s0 ((x, .raw (.ref a)) :: σ) (Item.plist a xs :: β)) rest Post) (hsw : swapsWith e (some (.Name x p)) pos.line fc.env = pure false := by rfl) :
    Tri fc (FS fc s0 σ β) (.Assign [.Name x p] e pos :: rest) Post := Tri.asg hsw fun E s hs => h (cs_ok W) s _ _ hs fun a vs n s1 ha x1 hl hv =>
  (hs.addP W ha x1 hl hv).store W hx .raw fun s2 h2 E' => k a E' s2 h2
theorem box_vrP {s} (W : fc.Ok) (hs : FS fc s0 σ β s) {a : Addr} {xs : List AV} (hb : Item.plist a xs ∈ β) : VR s.heap s.toks (PF fc []) (.list xs) (.ref a) := by
  obtain ⟨vs, n, hl, hv⟩ := hs.box _ hb
  refine .list ⟨hs.mut W (List.mem_append_right _ (List.mem_flatMap.mpr ⟨_, hb, .head _⟩)), fun q => hs.offF _ hb a (.head _) (by simpa [MUs] using q)⟩ hl.isList (hv.mono (fun _ _ _ e => e) fun a p => p.base)
theorem Has.boxP (W : fc.Ok) {x} {a : Addr} {xs : List AV} (h : Has (cs fc s0 σ β) x (.raw (.ref a))) (hb : Item.plist a xs ∈ β) : Has (cx fc s0 σ β) x (.list xs) := fun o s hs => by
  obtain ⟨v, y, k⟩ := h (cs_ok W) s hs
  (first | ((first | replace y := VR.intI y | replace y := VR.strI y); obtain ⟨_, rfl⟩ := y) | ((first | replace y := VR.rawI y | replace y := VRs.nilI y | replace y := VR.boolI y | replace y := VR.noneI y); subst y) | cases y)
  exact ⟨.ref a, box_vrP W hs hb, k⟩
theorem CellHas.boxP (W : fc.Ok) {x} {a : Addr} {xs : List AV} (h : CellHas (cs fc s0 σ β) x (.raw (.ref a))) (hb : Item.plist a xs ∈ β) : CellHas (cx fc s0 σ β) x (.list xs) := fun o => by
  obtain ⟨b, h1, h2, k⟩ := h (cs_ok W)
  refine ⟨b, h1, h2, fun s hs => ?_⟩
  obtain ⟨v, hc, y⟩ := k s hs
  (first | ((first | replace y := VR.intI y | replace y := VR.strI y); obtain ⟨_, rfl⟩ := y) | ((first | replace y := VR.rawI y | replace y := VRs.nilI y | replace y := VR.boolI y | replace y := VR.noneI y); subst y) | cases y)
  exact ⟨.ref a, hc, box_vrP W hs hb⟩
theorem Tri.expr {e : Expr} {pos : Pos} {Pre : Shared → Prop} (hi : interactive fc.env = false) (hsw : swapsWith e none pos.line fc.env = pure false) (h : ∀ E s, Pre s → wpAny (model fc.G.prog fc.G.w) fc.A (eval e fc.env) (fun v s' => (∀ a, v ≠ .ref a) ∧ Sq fc rest Post .next s') E s) :
    Tri fc Pre (.Expr e pos :: rest) Post := Tri.st fun E s hs => by
  rw [exec_Expr _ _ _ hi hsw]
  refine wpAny_bind (wpAny_standAt (wpAny_bind (wpAny_mono (h E s hs) (fun v s' q => ?_) fun _ _ e => e)))
  rw [dropValue_plain q.1]
  exact wpAny_pure q.2
theorem Tri.append (W : fc.Ok) {l r : List Item} {o e : Expr} {apos cpos pos : Pos} {a : Addr} {xs : List AV} {y : AV} (h1 : EvE (cs fc s0 σ (l ++ Item.plist a xs :: r)) o (.raw (.ref a)))
    (h : EvE (cs fc s0 σ (l ++ Item.plist a xs :: r)) e y) (hb : xs.length ≤ 1000000)
    (k : Tri fc (FS fc s0 σ (l ++ Item.plist a (xs ++ [y]) :: r)) rest Post)
    (hi : interactive fc.env = false := by rfl) (hsw : swapsWith (.Call (.Attribute o "append" apos) [e] [] cpos) none pos.line fc.env = pure false := by rfl)
    (hbase : attributeBase o "append" fc.env (eval o fc.env) = eval o fc.env := by rfl) (hform : methodCallForm ([e].length + 0) (backTo cpos (starEach [e] fc.env)) [] = true := by rfl) (hline : (apos.endLine == cpos.line) = true := by rfl) (htrees : backTo cpos (starEach [e] fc.env) = [(false, eval e fc.env)] := by rfl) :
    Tri fc (FS fc s0 σ (l ++ Item.plist a xs :: r)) (.Expr (.Call (.Attribute o "append" apos) [e] [] cpos) pos :: rest) Post := Tri.expr hi hsw fun E s hs => by
  refine meth_eval (id := "list.append") ?_ hbase hform hline
  refine h1 (cs_ok W) s hs _ _ fun v s1 x1 y1 => ?_
  (first | ((first | replace y1 := VR.intI y1 | replace y1 := VR.strI y1); obtain ⟨_, rfl⟩ := y1) | ((first | replace y1 := VR.rawI y1 | replace y1 := VRs.nilI y1 | replace y1 := VR.boolI y1 | replace y1 := VR.noneI y1); subst y1) | cases y1)
  have hs1 := FS.ext W hs x1
  obtain ⟨vs1, n1, hl1, hv1⟩ := hs1.box _ (List.mem_append_right _ (.head _))
  refine ⟨fun pl Q' q => Calls.getMethod_list_append hl1 rfl rfl q, ?_⟩
  rw [htrees]
  refine P.append_list (h (cs_ok W) s1 hs1 _ _ fun v2 s2 x2 y2 => ?_)
  have hs2 := FS.ext W hs1 x2
  obtain ⟨vs, n, hl, hv⟩ := hs2.box (Item.plist a xs) (List.mem_append_right _ (.head _))
  have hlen := hv.length
  refine ⟨vs.toArray, n, ?_, hl, fun a q => (nomatch q), fun E' => ?_⟩
  · rw [List.size_toArray, ← hlen]; exact Nat.le_trans hb (by decide)
  · have keep : ∀ b ob, b ≠ a → s2.heap.get? b = some ob → (s2.heap.update a (Obj.mapSeq fun xs => xs.push v2)).get? b = some ob := fun b ob hne e => (Heap.SameBut.update ..).extBut b ob hne e
    refine k E' _ (hs2.set W (j := Item.plist a (xs ++ [y])) rfl ⟨_, _, rfl⟩ (fun b ob hb' e => keep b ob (fun q => hb' (List.mem_singleton.mpr q)) e) ?_)
    have up := hl.update fun xs => xs.push v2
    have offP : ∀ b, PF fc (l ++ Item.plist a xs :: r) b → b ≠ a := fun b p q => p.2 (mem_MUs.mpr (.inr ⟨_, List.mem_append_right _ (.head _), List.mem_singleton.mpr q⟩))
    have e2 : vs.toArray.push v2 = (vs ++ [v2]).toArray := by simp
    rw [e2] at up
    exact ⟨vs ++ [v2], _, up, (hv.append (.cons y2 .nil)).mono (fun b ob pb e => keep b ob (offP b pb) e) fun _ p => p⟩
theorem Tri.reverse (W : fc.Ok) {l r : List Item} {o : Expr} {apos cpos pos : Pos} {a : Addr} {xs : List AV} (h1 : EvE (cs fc s0 σ (l ++ Item.plist a xs :: r)) o (.raw (.ref a))) (hb : xs.length ≤ 1000000)
    (k : Tri fc (FS fc s0 σ (l ++ Item.plist a xs.reverse :: r)) rest Post)
    (hi : interactive fc.env = false := by rfl) (hsw : swapsWith (.Call (.Attribute o "reverse" apos) [] [] cpos) none pos.line fc.env = pure false := by rfl)
    (hbase : attributeBase o "reverse" fc.env (eval o fc.env) = eval o fc.env := by rfl) (hform : methodCallForm (([] : List Expr).length + 0) (backTo cpos (starEach [] fc.env)) [] = true := by rfl) (hline : (apos.endLine == cpos.line) = true := by rfl) :
    Tri fc (FS fc s0 σ (l ++ Item.plist a xs :: r)) (.Expr (.Call (.Attribute o "reverse" apos) [] [] cpos) pos :: rest) Post := Tri.expr hi hsw fun E s hs => by
  refine meth_eval (id := "list.reverse") ?_ hbase hform hline
  refine h1 (cs_ok W) s hs _ _ fun v s1 x1 y1 => ?_
  (first | ((first | replace y1 := VR.intI y1 | replace y1 := VR.strI y1); obtain ⟨_, rfl⟩ := y1) | ((first | replace y1 := VR.rawI y1 | replace y1 := VRs.nilI y1 | replace y1 := VR.boolI y1 | replace y1 := VR.noneI y1); subst y1) | cases y1)
  have hs1 := FS.ext W hs x1
  obtain ⟨vs, n, hl, hv⟩ := hs1.box (Item.plist a xs) (List.mem_append_right _ (.head _))
  have hlen := hv.length
  refine ⟨fun pl Q' q => getMethod_list_of F.slot_list_reverse F.type_list_reverse hl.isList ⟨_, hl, rfl⟩ q, ?_⟩
  refine P.reverse_list hl ⟨fun a q => (nomatch q), fun E' => ?_⟩ (by rw [List.size_toArray, ← hlen]; exact Nat.le_trans hb (by decide))
  have keep : ∀ b ob, b ≠ a → s1.heap.get? b = some ob → (s1.heap.update a (Obj.mapSeq fun xs => xs.reverse)).get? b = some ob := fun b ob hne e => (Heap.SameBut.update ..).extBut b ob hne e
  refine k E' _ (hs1.set W (j := Item.plist a xs.reverse) rfl ⟨_, _, rfl⟩ (fun b ob hb' e => keep b ob (fun q => hb' (List.mem_singleton.mpr q)) e) ?_)
  have up := hl.update fun xs => xs.reverse
  have offP : ∀ b, PF fc (l ++ Item.plist a xs :: r) b → b ≠ a := fun b p q => p.2 (mem_MUs.mpr (.inr ⟨_, List.mem_append_right _ (.head _), List.mem_singleton.mpr q⟩))
  have e2 : vs.toArray.reverse = vs.reverse.toArray := by simp
  rw [e2] at up
  exact ⟨vs.reverse, _, up, (VRs.rev hv).mono (fun b ob pb e => keep b ob (offP b pb) e) fun _ p => p⟩
end
structure Chg (G : G0) (a : Addr) (xs : List AV) (s s' : Shared) : Prop where
  kp : Kp (Tb ++ [a]) s s'
  tabs : ∀ P : Addr → Prop, (∀ b, s.heap.get? b = none → P b) → G.TO P s.heap → G.TO P s'.heap
  box : ∃ vs, s'.heap.IsList a vs.toArray ∧ VRs s'.heap s'.toks (fun _ => True) xs vs
section
variable {fc : FC} {s0 s s' : Shared} {σ : List (Str × AV)} {β : List Item} {Post : Flow → Shared → Prop} {rest : List Stmt}
theorem FS.back (W : fc.Ok) {l r : List Item} {a : Addr} {xs ys : List AV} (h : FS fc s0 σ (l ++ Item.list a xs :: r) s) (ha : ys.all AV.atom = true) (x : Chg fc.G a ys s s') : FS fc s0 σ (l ++ Item.list a ys :: r) s' := by
  have im : Item.list a xs ∈ l ++ Item.list a xs :: r := List.mem_append_right _ (.head _)
  have inM : a ∈ MUs fc (l ++ Item.list a xs :: r) := mem_MUs.mpr (.inr ⟨_, im, .head _⟩)
  have pf := PF_swap (fc := fc) (i := Item.list a xs) (j := Item.list a ys) (l := l) (r := r) rfl
  have mu := MUs_swap (fc := fc) (i := Item.list a xs) (j := Item.list a ys) (l := l) (r := r) rfl
  have pw := h.sep
  have oth : ∀ k, k ∈ l ∨ k ∈ r → ∀ b ∈ k.ad, b ≠ a := by
    rintro k (hk | hk) b hb q
    · exact (List.pairwise_append.mp pw).2.2 k hk _ (.head _) b hb (List.mem_singleton.mpr q)
    · exact (List.pairwise_cons.mp (List.pairwise_append.mp pw).2.1).1 k hk a (.head _) (q ▸ hb)
  have keep : ∀ b ob, b ∉ Tb → b ≠ a → s.heap.get? b = some ob → s'.heap.get? b = some ob := fun b ob h1 h2 e => x.kp.keep b ob (fun q => (List.mem_append.mp q).elim h1 fun q => h2 (List.mem_singleton.mp q)) e
  refine ⟨?_, fun P f t => ?_, fun b hb => ?_, fun b hb => h.new b (mu ▸ hb), h.gl0, ?_, fun k hk => ?_, ?_, ?_⟩
  · have le' := Nat.le_trans h.kp.le x.kp.le
    obtain ⟨h1, tk1, e1⟩ := h.kp.same
    obtain ⟨h2, tk2, e2⟩ := x.kp.same
    refine ⟨⟨h2, tk2, by rw [e2, e1]⟩, fun b ob n e => keep b ob (fun q => n (List.mem_append_left _ q)) (fun q => ?_) (h.kp.keep b ob n e), fun b ob e => ?_, le'⟩
    · rcases h.new a inM with p | p
      · exact n (List.mem_append_right _ (q ▸ p))
      · rw [q, p] at e; cases e
    · obtain ⟨o1, e1⟩ := h.kp.live b ob e
      exact x.kp.live b o1 e1
  · rw [← mu]
    exact x.tabs _ (fun b e => ⟨f b (h.kp.none e), fun q => by obtain ⟨ob, eo⟩ := h.live b q; rw [e] at eo; cases eo⟩) (h.tabs P f t)
  · obtain ⟨ob, e⟩ := h.live b (mu ▸ hb)
    exact x.kp.live b ob e
  · rw [← pf]
    refine h.vars.keep (fun b o hb e => keep b o (hb.elim (·.1) fun q => h.mut W (mem_MUs.mpr (.inl q))) (fun q => ?_) e) x.kp.le
    exact hb.elim (fun p => p.2 (q ▸ inM)) fun p => h.offF _ im a (.head _) (q ▸ p)
  · rw [← pf]
    have go : k ∈ l ∨ k ∈ r → k.pr (PF fc (l ++ Item.list a xs :: r)) s'.heap s'.toks := fun hk => by
      have km : k ∈ l ++ Item.list a xs :: r := hk.elim (List.mem_append_left _) fun q => List.mem_append_right _ (.tail _ q)
      refine k.fr _ _ _ _ _ _ (h.box k km) (fun b o hb e => keep b o (hb.elim (·.1) fun q => h.mut W (mem_MUs.mpr (.inr ⟨k, km, q⟩))) (fun q => hb.elim (fun p => p.2 (q ▸ inM)) fun p => oth k hk b p q) e) (fun b o p _ => p) x.kp.le
    rcases List.mem_append.mp hk with hk | hk
    · exact go (.inl hk)
    · rcases List.mem_cons.mp hk with rfl | hk
      · obtain ⟨vs, hl, hv⟩ := x.box
        exact ⟨vs, hl, hv.atoms ha⟩
      · exact go (.inr hk)
  · obtain ⟨p1, p2, p3⟩ := List.pairwise_append.mp pw
    obtain ⟨p4, p5⟩ := List.pairwise_cons.mp p2
    refine List.pairwise_append.mpr ⟨p1, List.pairwise_cons.mpr ⟨fun k hk b hb => p4 k hk b hb, p5⟩, fun k hk k' hk' b hb q => ?_⟩
    rcases List.mem_cons.mp hk' with rfl | hk'
    · exact p3 k hk _ (.head _) b hb q
    · exact p3 k hk k' (.tail _ hk') b hb q
  · intro k hk b hb
    rcases List.mem_append.mp hk with hk | hk
    · exact h.offF k (List.mem_append_left _ hk) b hb
    · rcases List.mem_cons.mp hk with rfl | hk
      · exact h.offF _ im b hb
      · exact h.offF k (List.mem_append_right _ (.tail _ hk)) b hb
theorem FS.toChg (W : fc.Ok) {a : Addr} {xs : List AV} (h : FS fc s0 σ [Item.list a xs] s) (hO : fc.O = [a]) : Chg fc.G a xs s0 s := by
  obtain ⟨vs, hl, hv⟩ := h.box _ (.head _)
  exact ⟨hO ▸ h.kp, fun P f t => W.g.tmono _ _ _ (h.tabs P f t) fun b _ p _ => p.1, vs, hl, hv.mono (fun _ _ _ e => e) fun _ _ => trivial⟩
theorem Tri.ret0 {Pre : Shared → Prop} {pos : Pos} (k : ∀ s, Pre s → Post (.ret .none) s) : Tri fc Pre (.Return none pos :: rest) Post := Tri.st fun E s hs => by
  rw [exec_Return_none]
  exact wpAny_bind (wpAny_standAt (wpAny_pure (k s hs)))
theorem nS {x : Str} {p : Pos} {r : AV} (hv : σ.lookup x = some r := by exact rfl) (hk : fc.env.kindOf x = some .local := by exact rfl) (hd : (x == ("__debug__" : Str)) = false := by rfl) : EvE (cs fc s0 σ β) (.Name x p) r := EvE.name (Has.loc hv hk) hd
theorem nSC (W : fc.Ok) {x : Str} {p : Pos} {r : AV} (hk : ∃ a, fc.own.lookup x = some a) (hv : σ.lookup x = some r := by exact rfl) (hd : (x == ("__debug__" : Str)) = false := by rfl) : EvE (cs fc s0 σ β) (.Name x p) r := EvE.name (Has.cel W hv hk) hd
theorem nFreeB (W : fc.Ok) {x : Str} {p : Pos} {r : AV} (h : CellHas (cs fc s0 σ β) x r) (hk : fc.env.kindOf x = some .free := by exact rfl) (hd : (x == ("__debug__" : Str)) = false := by rfl) (hcd : (x == ("__classdict__" : Str)) = false := by rfl) : EvE (cx fc s0 σ β) (.Name x p) r := EvE.name (fun o s hs => by
  obtain ⟨a, ha, ht, k⟩ := h.big W o
  obtain ⟨v, hc, y⟩ := k s hs
  exact ⟨v, y, fun Q E q => wpAny_loadName_free o.kind hk ha hc q hcd⟩) hd
theorem Tri.callN (W : fc.Ok) {x : Str} {p cpos pos : Pos} {es : List Expr} {f : Addr} {rs : List AV} {Pre : Shared → Prop} (hpre : ∀ s, Pre s → FS fc s0 σ β s) (hpst : ∀ s s', Pre s → Ext fc.G s s' → Pre s') (hf : EvE (cs fc s0 σ β) (.Name x p) (.raw (.ref f))) (hc : ∀ s, Pre s → ∃ ob fd, s.heap.get? f = some ob ∧ f ∉ Tb ∧ ob.data = .func fd)
    (ha : EvA (cx fc s0 σ β) es rs) (hcall : ∀ E s vs, Pre s → VRs s.heap s.toks (PF fc []) rs vs → wpAny (model fc.G.prog fc.G.w) fc.A (call (.ref f) vs []) (fun v s' => v = .none ∧ Sq fc rest Post .next s') E s)
    (hi : interactive fc.env = false := by rfl) (hsw : swapsWith (.Call (.Name x p) es [] cpos) none pos.line fc.env = pure false := by rfl) :
    Tri fc Pre (.Expr (.Call (.Name x p) es [] cpos) pos :: rest) Post := Tri.expr hi hsw fun E s hs => by
  have go : wpAny (model fc.G.prog fc.G.w) fc.A (eval (.Name x p) fc.env) (fun v s₁ => wpAny (model fc.G.prog fc.G.w) fc.A (callWith cpos v [] (backTo cpos (starEach es fc.env)) []) (fun v s' => (∀ a, v ≠ .ref a) ∧ Sq fc rest Post .next s') E s₁) E s := by
    refine hf (cs_ok W) s (hpre s hs) _ _ fun v s1 x1 y1 => ?_
    (first | ((first | replace y1 := VR.intI y1 | replace y1 := VR.strI y1); obtain ⟨_, rfl⟩ := y1) | ((first | replace y1 := VR.rawI y1 | replace y1 := VRs.nilI y1 | replace y1 := VR.boolI y1 | replace y1 := VR.noneI y1); subst y1) | cases y1)
    have hs1 := hpst _ _ hs x1
    obtain ⟨ob, fd, ho, ht, hd⟩ := hc s1 hs1
    have hp : (backTo cpos (starEach es fc.env)).any (·.1) = false := backTo_any.trans ha.plain
    refine Calls.callWith_function (o := ob) (fd := fd) (evalArgs_plainL hp (ha.ev (cx_ok W) cpos s1 _ _ (hpre s1 hs1) fun vs s2 x2 y2 => ⟨⟨x2.keep _ _ ht ho, hd⟩, ?_⟩))
    exact wpAny_mono (hcall E s2 vs (hpst _ _ hs1 x2) y2) (fun v s' q => ⟨fun a => by rw [q.1]; exact nofun, q.2⟩) fun _ _ e => e
  rw [arm_eval_Call_Name']
  exact wpAny_bind go
theorem Tri.retBox (W : fc.Ok) {e : Expr} {pos : Pos} {a : Addr} {xs : List AV} (h : EvE (cs fc s0 σ β) e (.raw (.ref a))) (hb : Item.list a xs ∈ β) (ha : xs.all AV.atom = true) (hO : fc.O = []) (k : ∀ s v, FS fc s0 σ β s → VR s.heap s.toks (fun a => s0.heap.get? a = none) (.list xs) v → Post (.ret v) s) :
    Tri fc (FS fc s0 σ β) (.Return (some e) pos :: rest) Post := Tri.st fun E s hs => by
  rw [exec_Return_some]
  refine wpAny_bind (wpAny_standAt (wpAny_bind ?_))
  refine h (cs_ok W) s hs _ _ fun v s1 x1 y => wpAny_pure ?_
  have h1 := FS.ext W hs x1
  (first | ((first | replace y := VR.intI y | replace y := VR.strI y); obtain ⟨_, rfl⟩ := y) | ((first | replace y := VR.rawI y | replace y := VRs.nilI y | replace y := VR.boolI y | replace y := VR.noneI y); subst y) | cases y)
  obtain ⟨vs, hl, hv⟩ := h1.box _ hb
  refine k s1 _ h1 (.list ?_ hl (hv.atoms ha))
  refine (h1.new a (mem_MUs.mpr (.inr ⟨_, hb, .head _⟩))).resolve_left ?_
  rw [hO]; exact nofun
end
theorem noCell {names : List (Str × NameKind)} (h : (names.all fun p => p.2 != .cell) = true) : ∀ x ∈ names, x.2 ≠ .cell := fun x hx e => by
  have := List.all_eq_true.mp h x hx
  rw [e] at this
  cases this
noncomputable def netAt (ps : List (Int × Int)) (fl : List Int) (pt k : Int) : Int := if (nthP ps k).1 == pt then nth fl k else -nth fl k
noncomputable def net (ps : List (Int × Int)) (es : List (List Int)) (fl : List Int) (pt : Int) : Int := ((List.range (nthL es pt).length).map fun (i : Nat) => netAt ps fl pt (nth (nthL es pt) i)).sum
theorem bind_net (P : Params) : ∀ vs : List Value, vs.length = 4 → bindArgs (fdAt P 139) ⟨vs, []⟩ = pure ((["pipes", "ends", "flow", "point"] : List Str).zip vs) := by
  intro vs h
  obtain ⟨a, b, c, d, rfl⟩ := len4 h
  kernel_rfl
theorem fn_net {G : G0} (g : GK G) (k : Nat) {ps : List (Int × Int)} {es : List (List Int)} {fl : List Int} {pt : Int}
    (h0 : 0 ≤ pt) (h1 : pt < es.length) (hes : es.length ≤ 100) (hn : (nthL es pt).length ≤ 100)
    (hk : ∀ i : Nat, i < (nthL es pt).length → 0 ≤ nth (nthL es pt) i ∧ nth (nthL es pt) i < ps.length ∧ nth (nthL es pt) i < fl.length) (hps : ps.length ≤ 100) (hfl : fl.length ≤ 100)
    (hfit : ∀ j, j < (nthL es pt).length → InLong (netAt ps fl pt (nth (nthL es pt) j)) ∧ InLong (preSum (fun (i : Nat) => netAt ps fl pt (nth (nthL es pt) i)) (j + 1))) :
    Fn G 139 (k + 1) [pipesA ps, endsA es, intsA fl, .int pt] (.int (net ps es fl pt)) := by
  refine Fn.mk g.toOk (sc := ?sc) (fd := fdAt G.w.params 139) (body := bodyAt G.w.params 139) ["pipes", "ends", "flow", "point"] ?hsc (g.get (by rfl : (fr.heap_1 G.w.params).lookup 139 = some (objAt G.w.params 139))) rfl
    ⟨138, _, _, _, rfl, g.get rfl, rfl, rfl⟩ rfl rfl rfl rfl ?hnd (by decide) rfl (bind_net _) ?hk ?main
  case hsc => conv => lhs; whnf
  case hnd => exact of_decide_eq_true (by rfl)
  case hk =>
    simp only [List.mem_cons, or_false, forall_eq_or_imp, forall_eq, List.not_mem_nil]
    exact ⟨.inr rfl, .inl rfl, .inr rfl, .inr rfl⟩
  case main =>
  intro nd A s0 L rm W
  conv => arg 3; whnf
  have cP := own_look (C := L) nd (x := "pipes") rfl
  have cF := own_look (C := L) nd (x := "flow") rfl
  have cQ := own_look (C := L) nd (x := "point") rfl
  refine Tri.ret W (r := .int (net ps es fl pt)) ?_ fun s v h y => ⟨v, rfl, h.toExt W, y.atom rfl⟩
  refine EvE.call (f := .builtin "sum") (EvE.name (Has.builtin rfl (g.glob rfl) rfl)) .builtin (rs := [.list ((List.range (nthL es pt).length).map fun (i : Nat) => .int (netAt ps fl pt (nth (nthL es pt) i)))]) (.cons ?_ .nil) (CaR.sum hfit)
  refine EvE.comp0 (n := (nthL es pt).length) (bs := fun i => [(("k" : Str), AV.int (nth (nthL es pt) i))]) (Tg := fun env own P' => Kd env own "k") ?_ ?_ (of_decide_eq_true (by rfl)) ?_ ?_ ?_
  · have e : (nthL es pt).length = ((nthL es pt).map AV.int).length := by simp
    rw [e]
    refine EvG.name (EvI.list ?_ ?_) _ ?_
    · exact EvE.sub (r1 := endsA es) (nL W) (r2 := .int pt) (nC W cQ) (OpR.itemL h0 (by omega) (endsA_get h0 h1))
    · rw [List.length_map]; omega
    · intro i hi
      rw [List.length_map] at hi
      have := intsA_get (l := nthL es pt) (i := (i : Int)) (by omega) (by omega)
      simpa using this
  · omega
  · exact fun hnd o => free3 (by rfl)
  · exact fun hnd C P' F => Kd.inner hnd rfl (.inl rfl)
  · intro hnd o C MU i hi hT
    obtain ⟨k0, k1, k2⟩ := hk i hi
    unfold netAt
    refine EvE.ifI (EvT.cmp (EvE.sub (EvE.sub (nF o hnd (cC W cP)) (nH hnd) (OpR.itemL k0 (by omega) (pipesA_get k0 k1))) .int (OpR.itemT (by decide) (by decide) rfl)) (nF o hnd (cC W cQ)) .eqI)
      (fun _ => EvE.sub (nF o hnd (cC W cF)) (nH hnd) (OpR.itemL k0 (by omega) (intsA_get k0 k2)))
      (fun _ => EvE.neg (EvE.sub (nF o hnd (cC W cF)) (nH hnd) (OpR.itemL k0 (by omega) (intsA_get k0 k2))))
noncomputable def nestOf : List Stmt → Option (Arguments × List Stmt × Scope × Pos)
  | .FunctionDef _ args body _ _ _ scope _ _ pos :: _ => some (args, body, scope, pos)
  | _ :: r => nestOf r
  | [] => none
noncomputable def inArgs (P : Params) (a : Addr) : Arguments := match nestOf (bodyAt P a) with | some x => x.1 | none => default
noncomputable def inBody (P : Params) (a : Addr) : List Stmt := match nestOf (bodyAt P a) with | some x => x.2.1 | none => default
noncomputable def inScope (P : Params) (a : Addr) : Scope := match nestOf (bodyAt P a) with | some x => x.2.2.1 | none => default
noncomputable def inPos (P : Params) (a : Addr) : Pos := match nestOf (bodyAt P a) with | some x => x.2.2.2 | none => default
noncomputable def inQual (P : Params) (a : Addr) : Str := (fdAt P a).qualname ++ ".<locals>." ++ "inner"
noncomputable def TabL (Q : Addr → Prop) (h : Heap) (tab : Addr) (qual : Str) : Prop :=
  ∃ ps, h.get? tab = some (tabObj ps) ∧ TriplesOk ps.toList ∧ ∀ pos v, codeAmong pos ps.toList = some v → ∃ c', v = .ref c' ∧ Q c' ∧ h.CodeRec (.ref c') qual
noncomputable def lamQual (P : Params) : Str := (fdAt P 134).qualname ++ ".<locals>." ++ "<lambda>"
structure GN (G : G0) : Prop extends GK G where
  TO : G.TO = fun Q h => TabD Q h 37 (inPos G.w.params 42) (inQual G.w.params 42) ∧ TabD Q h 44 (inPos G.w.params 49) (inQual G.w.params 49) ∧ TabL Q h 129 (lamQual G.w.params)
noncomputable abbrev fdIn (P : Params) (a : Addr) (clos : List (Str × Addr)) (doc pm cdv ctv : Value) : FuncData := fnX "inner" (inQual P a) (inArgs P a) (inBody P a) (inScope P a) clos .none .none doc pm none cdv ctv
noncomputable def midOf (L R : Int) : Int := (L + R).fdiv (2 ^ (1 : Int).toNat)
noncomputable def shOf (n L R : Int) : Int := (midOf L R - L) * n
noncomputable def upOf (x n L R : Int) : Int := x.fdiv (2 ^ (shOf n L R).toNat)
noncomputable def loOf (x n L R : Int) : Int := Builtin.bitXor x (upOf x n L R * 2 ^ (shOf n L R).toNat)
noncomputable def digs : Nat → Int → Int → Int → Int → List Int → List Int
  | 0, _, _, _, _, arr => arr
  | f + 1, x, n, L, R, arr => if L + 1 == R then arr.set L.toNat x else digs f (upOf x n L R) n (midOf L R) R (digs f (loOf x n L R) n L (midOf L R) arr)
noncomputable def okI : Nat → Int → Int → Int → Int → Nat → Bool
  | 0, _, _, _, _, _ => false
  | f + 1, x, n, L, R, len => if L + 1 == R then decide (0 ≤ L) && decide (L < len) else decide (0 ≤ shOf n L R) && decide (shOf n L R ≤ 1000000) && decide ((upOf x n L R).natAbs < 2 ^ 64) && okI f (loOf x n L R) n L (midOf L R) len && okI f (upOf x n L R) n (midOf L R) R len
theorem digs_len : ∀ (f : Nat) (x n L R : Int) (arr : List Int), (digs f x n L R arr).length = arr.length
  | 0, _, _, _, _, _ => rfl
  | f + 1, x, n, L, R, arr => by
    unfold digs
    split
    · simp
    · rw [digs_len f, digs_len f]
structure InnF (G : G0) (a : Addr) (n : Int) (f : Addr) (fd : FuncData) (s : Shared) : Prop where
  fo : s.heap.get? f = some { cls := .type "function", data := .func fd }
  fT : f ∉ Tb ++ [a]
  cd : ∃ c o vs t, fd.code = .ref c ∧ c ∉ Tb ++ [a] ∧ s.heap.get? c = some o ∧ o.data = .fields vs ∧ vs[1]? = some (.str fd.qualname t)
  c1 : ∃ b, fd.closure.lookup ("a_digits" : Str) = some b ∧ b ∉ Tb ++ [a] ∧ s.heap.IsCell b (some (.ref a))
  c2 : ∃ b, fd.closure.lookup ("inner" : Str) = some b ∧ b ∉ Tb ++ [a] ∧ s.heap.IsCell b (some (.ref f))
  c3 : ∃ b t, fd.closure.lookup ("n" : Str) = some b ∧ b ∉ Tb ++ [a] ∧ s.heap.IsCell b (some (.int n t))
theorem InnF.keep {G a n f fd s s'} (h : InnF G a n f fd s) (x : Kp (Tb ++ [a]) s s') : InnF G a n f fd s' := by
  obtain ⟨h1, h2, ⟨c, o, vs, t, e1, e2, e3, e4, e5⟩, ⟨b1, p1, q1, o1, g1, d1⟩, ⟨b2, p2, q2, o2, g2, d2⟩, ⟨b3, t3, p3, q3, o3, g3, d3⟩⟩ := h
  exact ⟨x.keep _ _ h2 h1, h2, ⟨c, o, vs, t, e1, e2, x.keep _ _ e2 e3, e4, e5⟩, ⟨b1, p1, q1, o1, x.keep _ _ q1 g1, d1⟩, ⟨b2, p2, q2, o2, x.keep _ _ q2 g2, d2⟩, ⟨b3, t3, p3, q3, o3, x.keep _ _ q3 g3, d3⟩⟩
noncomputable def InnC (G : G0) (a : Addr) (n : Int) (f : Addr) (fd : FuncData) (m : Nat) : Prop := ∀ A s x L R arr vs Q E, Rm A m → Glob G NT s → InnF G a n f fd s → G.g.get? a = none → a ∉ Tb → okI m x n L R arr.length = true → arr.length ≤ 1000000 → Item.pr (.list a (arr.map .int)) (fun b => NT b ∧ b ∉ [a]) s.heap s.toks →
  VRs s.heap s.toks (fun _ => True) [.int x, .int L, .int R] vs → (∀ s', Chg G a ((digs m x n L R arr).map .int) s s' → Q .none s') → wpAny (model G.prog G.w) A (call (.ref f) vs []) Q E s
theorem Glob.chg {G : G0} (o : G.Ok) {a : Addr} {xs s s'} (h : Glob G NT s) (x : Chg G a xs s s') (ha : G.g.get? a = none) : Glob G NT s' := by
  refine ⟨fun b ob e => x.kp.keep b ob (fun q => (List.mem_append.mp q).elim (fun q => by rw [o.hide b q] at e; cases e) fun q => by rw [List.mem_singleton.mp q, ha] at e; cases e) (h.keep b ob e), x.tabs NT (fun b e q => ?_) h.tabs, ?_, ?_⟩
  · obtain ⟨ob, eo⟩ := o.tlive _ _ h.tabs b q
    rw [e] at eo; cases eo
  · obtain ⟨hh, tk, rfl⟩ := x.kp.same; exact h.gens
  · exact Nat.lt_of_lt_of_le h.pos x.kp.le
theorem map_all (l : List Int) : (l.map AV.int).all AV.atom = true := by simp [List.all_eq_true, AV.atom]
theorem inner_ok1 {G : G0} (g : GN G) {a : Addr} {n : Int} {f : Addr} {clos : List (Str × Addr)} {doc pm cdv ctv : Value} (hn : Builtin.Int.intBits n ≤ 64) : ∀ m, InnC G a n f (fdIn G.w.params 42 clos doc pm cdv ctv) m := by
  intro m
  induction m with
  | zero => intro A s x L R arr vs Q E rm gl hF hg hT ok; exact absurd ok (by simp [okI])
  | succ m ih =>
    intro A s x L R arr vs Q E rm gl hF hg hT ok hlen hb hv k
    obtain ⟨cc, co, cvs, ct, e1, e2, e3, e4, e5⟩ := hF.cd
    obtain ⟨v1, v2, v3, rfl, y1, y2, y3⟩ := VRs.three hv
    have hbind : bindArgs (fdIn G.w.params 42 clos doc pm cdv ctv) ⟨[v1, v2, v3], []⟩ = pure ((["x", "L", "R"] : List Str).zip [v1, v2, v3]) := by kernel_rfl
    refine clo_call g.toOk (sc := ?sc) (fd := fdIn G.w.params 42 clos doc pm cdv ctv) (body := inBody G.w.params 42) (O := [a]) (β0 := [.list a (arr.map .int)]) (rs := [.int x, .int L, .int R]) ["x", "L", "R"] ?hsc rm gl (.cons (y1.atom rfl) (.cons (y2.atom rfl) (.cons (y3.atom rfl) .nil))) hF.fo rfl ⟨cc, co, cvs, ct, e1, e3, e4, e5⟩ rfl rfl rfl ?hcell (by decide) rfl hbind ?hk ?hO ?hb ?hOb ?hs ?hT ?main
    case hsc => conv => lhs; whnf
    case hcell => exact noCell (by rfl)
    case hk =>
      simp only [List.mem_cons, or_false, forall_eq_or_imp, forall_eq, List.not_mem_nil]
      exact ⟨rfl, rfl, rfl⟩
    case hO => exact fun b hb' => by rw [List.mem_singleton.mp hb']; exact ⟨hT, hg⟩
    case hb =>
      intro i hi
      rw [List.mem_singleton.mp hi]
      exact ⟨fun b hb' => hb', hb⟩
    case hOb => exact fun b hb' => ⟨_, .head _, hb'⟩
    case hs => exact List.pairwise_singleton _ _
    case hT =>
      intro P t
      obtain ⟨ws, ⟨ob, e, hc, ne, hd⟩, _⟩ := hb
      refine g.tmono _ _ _ (g.tsep _ _ a ob t e fun us q => by rw [hd] at q; cases q) fun b _ p _ => ⟨p.1, fun q => p.2 (List.mem_singleton.mp q)⟩
    case main =>
    intro L' env W
    conv => arg 3; whnf
    have cA : ∀ σ β, CellHas (cs (fcCS G (A.deeper env) (fdIn G.w.params 42 clos doc pm cdv ctv) _ L' f [a]) s σ β) "a_digits" (.raw (.ref a)) := fun σ β => by
      obtain ⟨b, p, q, hc⟩ := hF.c1
      exact CellHas.clo W p q hc .raw
    have cI : ∀ σ β, CellHas (cs (fcCS G (A.deeper env) (fdIn G.w.params 42 clos doc pm cdv ctv) _ L' f [a]) s σ β) "inner" (.raw (.ref f)) := fun σ β => by
      obtain ⟨b, p, q, hc⟩ := hF.c2
      exact CellHas.clo W p q hc .raw
    have cN : ∀ σ β, CellHas (cs (fcCS G (A.deeper env) (fdIn G.w.params 42 clos doc pm cdv ctv) _ L' f [a]) s σ β) "n" (.int n) := fun σ β => by
      obtain ⟨b, t, p, q, hc⟩ := hF.c3
      exact CellHas.clo W p q hc .int
    have ok0 := ok
    unfold okI at ok
    have base : ∀ (s1 : Shared) (σ : List (Str × AV)) (xs : List Int), FS (fcCS G (A.deeper env) (fdIn G.w.params 42 clos doc pm cdv ctv) _ L' f [a]) s σ [Item.list a (xs.map .int)] s1 → InnF G a n f (fdIn G.w.params 42 clos doc pm cdv ctv) s1 ∧ Glob G NT s1 ∧ Item.pr (.list a (xs.map .int)) (fun b => NT b ∧ b ∉ [a]) s1.heap s1.toks := fun s1 σ xs h => by
      refine ⟨hF.keep h.kp, (h.glob W).wk g.toOk fun b p => p.1, ?_⟩
      obtain ⟨vs, hl, hv⟩ := h.box _ (.head _)
      exact ⟨vs, hl, hv.atoms (map_all _)⟩
    refine Tri.if W (x := (L + 1 == R)) (EvT.cmp (EvE.bin (nL W) .int .add) (nL W) .eqI) (fun hx => ?_) (fun hx => ?_)
    · rw [if_pos hx] at ok
      simp only [Bool.and_eq_true, decide_eq_true_eq] at ok
      refine Tri.setL W (l := []) (r := []) (a := a) (xs := arr.map .int) (n := L) (y := .int x) (nL W) rfl (nFree W (cA _ _)) (nL W) ok.1 (by rw [List.length_map]; exact ok.2) (by rw [List.length_map]; exact hlen) (Tri.ret0 fun s1 h1 => ?_)
      refine k s1 ?_
      have e : (digs (m + 1) x n L R arr).map AV.int = (arr.map AV.int).set L.toNat (.int x) := by
        unfold digs
        rw [if_pos hx, List.map_set]
      rw [e]
      exact FS.toChg W h1 rfl
    · have hx' : ¬ (L + 1 == R) = true := by rw [hx]; decide
      rw [if_neg hx'] at ok
      simp only [Bool.and_eq_true, decide_eq_true_eq] at ok
      obtain ⟨⟨⟨⟨k1, k2⟩, k3⟩, k4⟩, k5⟩ := ok
      refine Tri.back ?_
      refine Tri.asgA W (r := .int (midOf L R)) (EvE.bin (EvE.bin (nL W) (nL W) .add) .int (.shr (by decide))) rfl (.inl rfl) ?_
      refine Tri.asgA W (r := .int (shOf n L R)) (EvE.bin (EvE.bin (nL W) (nL W) .sub) (nFreeB W (cN _ _)) (.mul (.of_right hn))) rfl (.inl rfl) ?_
      refine Tri.asgA W (r := .int (upOf x n L R)) (EvE.bin (nL W) (nL W) (.shr k1)) rfl (.inl rfl) ?_
      refine Tri.asgA W (r := .int (loOf x n L R)) (EvE.bin (nL W) (EvE.bin (nL W) (nL W) (.shl k1 k2 k3)) .bxor) rfl (.inl rfl) ?_
      have l1 := digs_len m (loOf x n L R) n L (midOf L R) arr
      refine Tri.callN W (f := f) (rs := [.int (loOf x n L R), .int L, .int (midOf L R)]) (fun s h => h) (fun s s' h x => FS.ext W h x) (nFree W (cI _ _)) (fun s1 h1 => ⟨_, _, (base s1 _ _ h1).1.fo, fun q => hF.fT (List.mem_append_left _ q), rfl⟩) (.cons (nL W) (.cons (nL W) (.cons (nL W) .nil))) (fun E s1 vs h1 hv => ?_)
      refine ih _ s1 _ _ _ arr vs _ E (deeper_rm rm) (base s1 _ _ h1).2.1 (base s1 _ _ h1).1 hg hT k4 hlen (base s1 _ _ h1).2.2 (hv.mono (fun _ _ _ e => e) fun _ _ => trivial) fun s2 ch => ⟨rfl, ?_⟩
      refine fun E' => (?_ : Tri _ _ _ _) E' s2 (FS.back W (l := []) (r := []) h1 (map_all _) ch)
      refine Tri.callN W (f := f) (rs := [.int (upOf x n L R), .int (midOf L R), .int R]) (fun s h => h) (fun s s' h x => FS.ext W h x) (nFree W (cI _ _)) (fun s1 h1 => ⟨_, _, (base s1 _ _ h1).1.fo, fun q => hF.fT (List.mem_append_left _ q), rfl⟩) (.cons (nL W) (.cons (nL W) (.cons (nL W) .nil))) (fun E s1 vs h1 hv => ?_)
      refine ih _ s1 _ _ _ (digs m (loOf x n L R) n L (midOf L R) arr) vs _ E (deeper_rm rm) (base s1 _ _ h1).2.1 (base s1 _ _ h1).1 hg hT (by rw [l1]; exact k5) (by rw [l1]; exact hlen) (base s1 _ _ h1).2.2 (hv.mono (fun _ _ _ e => e) fun _ _ => trivial) fun s2 ch => ⟨rfl, ?_⟩
      refine fun E' => (Tri.nil fun s3 h3 => ?_ : Tri _ _ _ _) E' s2 (FS.back W (l := []) (r := []) h1 (map_all _) ch)
      refine k s3 ?_
      have e : digs (m + 1) x n L R arr = digs m (upOf x n L R) n (midOf L R) R (digs m (loOf x n L R) n L (midOf L R) arr) := by
        conv => lhs; unfold digs
        rw [if_neg hx']
      rw [e]
      exact FS.toChg W h3 rfl
noncomputable def lenD (a n : Int) : Int := ((Builtin.Int.intBits a : Int) + n - 1).fdiv n
noncomputable def i2d (m : Nat) (a n : Int) : List Int := if a != 0 then digs m a n 0 (lenD a n) (List.replicate (lenD a n).toNat 0) else List.replicate (lenD a n).toNat 0
theorem clo_cell {fc : FC} {s0 s : Shared} {σ β} (W : fc.Ok) (h : FS fc s0 σ β s) {x : Str} {r : AV} (ho : ∃ b, fc.own.lookup x = some b) (hv : σ.lookup x = some r) {names : List (Str × NameKind)} (hx : (x, NameKind.free) ∈ names) {ad : Addr} {xs : List AV} (hb : Item.list ad xs ∈ β) :
    ∃ b v, (clOf fc.env names []).lookup x = some b ∧ b ∉ Tb ++ [ad] ∧ s.heap.IsCell b (some v) ∧ VR s.heap s.toks (PF fc β) r v := by
  obtain ⟨b, hb0⟩ := ho
  obtain ⟨b', h1, h2⟩ := clOf_lookup (env := fc.env) (acc := []) hx
  rw [W.F.cells x b hb0] at h2
  have h2' : b' = b := h2
  subst h2'
  have fm : b' ∈ FAd fc.env fc.own := .tail _ (List.mem_map.mpr ⟨_, mem_of_lookup hb0, rfl⟩)
  obtain ⟨ov, hc, h3⟩ := h.vars.cel x b' hb0
  obtain ⟨v, rfl, y⟩ := h3 r hv
  refine ⟨b', v, h1, fun q => (List.mem_append.mp q).elim (W.F.off b' fm).2 fun q => ?_, hc, y⟩
  exact h.offF _ hb ad (.head _) (List.mem_singleton.mp q ▸ fm)
theorem im3 {i j k : Item} : k ∈ [i, j, k] := .tail _ (.tail _ (.head _))
theorem new_of {fc : FC} {s0 s : Shared} {σ β} (h : FS fc s0 σ β s) {a : Addr} {xs : List AV} (hb : Item.list a xs ∈ β) (hO : fc.O = []) : s0.heap.get? a = none := (h.new a (mem_MUs.mpr (.inr ⟨_, hb, .head _⟩))).resolve_left (by rw [hO]; exact nofun)
theorem mut_of {fc : FC} {s0 s : Shared} {σ β} (W : fc.Ok) (h : FS fc s0 σ β s) {a : Addr} {xs : List AV} (hb : Item.list a xs ∈ β) : a ∉ Tb := h.mut W (mem_MUs.mpr (.inr ⟨_, hb, .head _⟩))
theorem inn_of {G : G0} {fc : FC} (W : fc.Ok) {s0 s : Shared} {σ : List (Str × AV)} {ad f : Addr} {n : Int} {fd : FuncData} {cdv : Value} {qual : Str} {xs : List AV} {names : List (Str × NameKind)} (hcl : fd.closure = clOf fc.env names []) (hcode : fd.code = cdv) (hq : fd.qualname = qual)
    (oA : ∃ b, fc.own.lookup ("a_digits" : Str) = some b) (oI : ∃ b, fc.own.lookup ("inner" : Str) = some b) (oN : ∃ b, fc.own.lookup ("n" : Str) = some b) (vA : σ.lookup ("a_digits" : Str) = some (.raw (.ref ad))) (vI : σ.lookup ("inner" : Str) = some (.raw (.ref f))) (vN : σ.lookup ("n" : Str) = some (.int n))
    (mA : (("a_digits" : Str), NameKind.free) ∈ names) (mI : (("inner" : Str), NameKind.free) ∈ names) (mN : (("n" : Str), NameKind.free) ∈ names)
    (h1 : FS fc s0 σ [Item.obj f { cls := .type "function", data := .func fd }, Item.code cdv qual, Item.list ad xs] s) : InnF G ad n f fd s := by
  have im : Item.list ad xs ∈ [Item.obj f { cls := .type "function", data := .func fd }, Item.code cdv qual, Item.list ad xs] := .tail _ (.tail _ (.head _))
  have adM : ad ∈ MUs fc [Item.obj f { cls := .type "function", data := .func fd }, Item.code cdv qual, Item.list ad xs] := mem_MUs.mpr (.inr ⟨_, im, .head _⟩)
  have off : ∀ b, PF fc [Item.obj f { cls := .type "function", data := .func fd }, Item.code cdv qual, Item.list ad xs] b → b ∉ Tb ++ [ad] := fun b p q => (List.mem_append.mp q).elim p.1 fun q => p.2 (List.mem_singleton.mp q ▸ adM)
  obtain ⟨pf, fo⟩ := h1.box _ (.head _)
  obtain ⟨c, o, vs, u, e1, e2, e3, e4, e5⟩ := h1.box _ (.tail _ (.head _))
  obtain ⟨b1, v1, p1, q1, r1, y1⟩ := clo_cell W h1 oA vA mA im
  obtain ⟨b2, v2, p2, q2, r2, y2⟩ := clo_cell W h1 oI vI mI im
  obtain ⟨b3, v3, p3, q3, r3, y3⟩ := clo_cell W h1 oN vN mN im
  (first | ((first | replace y1 := VR.intI y1 | replace y1 := VR.strI y1); obtain ⟨_, rfl⟩ := y1) | ((first | replace y1 := VR.rawI y1 | replace y1 := VRs.nilI y1 | replace y1 := VR.boolI y1 | replace y1 := VR.noneI y1); subst y1) | cases y1); (first | ((first | replace y2 := VR.intI y2 | replace y2 := VR.strI y2); obtain ⟨_, rfl⟩ := y2) | ((first | replace y2 := VR.rawI y2 | replace y2 := VRs.nilI y2 | replace y2 := VR.boolI y2 | replace y2 := VR.noneI y2); subst y2) | cases y2); (first | ((first | replace y3 := VR.intI y3 | replace y3 := VR.strI y3); obtain ⟨_, rfl⟩ := y3) | ((first | replace y3 := VR.rawI y3 | replace y3 := VRs.nilI y3 | replace y3 := VR.boolI y3 | replace y3 := VR.noneI y3); subst y3) | cases y3)
  refine ⟨fo, off f pf, ⟨c, o, vs, u, hcode ▸ e1, off c e2, e3, e4, hq ▸ e5⟩, ⟨b1, hcl ▸ p1, q1, r1⟩, ⟨b2, hcl ▸ p2, q2, r2⟩, ⟨b3, _, hcl ▸ p3, q3, r3⟩⟩
theorem tab_ne {Q : Addr → Prop} {h : Heap} {tab : Addr} {pos : Pos} {qual q2 : Str} {c : Addr} (t : TabD Q h tab pos qual) (r : h.CodeRec (.ref c) q2) : c ≠ tab := fun e => by
  obtain ⟨c', o, vs, u, e1, e2, e3, e4⟩ := r
  cases e1
  subst e
  rcases t with g | ⟨c2, g, _⟩
  · rw [e2] at g; cases g; cases e3; simp at e4
  · rw [e2] at g; cases g; cases e3; simp [rawInt] at e4
theorem TabD.up {Q : Addr → Prop} {h h' : Heap} {tab tab' : Addr} {pos pos' : Pos} {qual qual' : Str} (t : TabD Q h tab pos qual) (t' : TabD Q h tab' pos' qual') (hn : tab ≠ tab') (k : ∀ b o, b ≠ tab' → h.get? b = some o → h'.get? b = some o) : TabD Q h' tab pos qual := by
  rcases t with g | ⟨c2, g, q, r⟩
  · exact .inl (k _ _ hn g)
  · have hc := tab_ne t' r
    obtain ⟨c', o, vs, u, e1, e2, e3, e4⟩ := r
    cases e1
    exact .inr ⟨c2, k _ _ hn g, q, c2, o, vs, u, rfl, k _ _ hc e2, e3, e4⟩
theorem tabD_dat {Q : Addr → Prop} {h : Heap} {tab : Addr} {pos : Pos} {qual : Str} (t : TabD Q h tab pos qual) : ∃ ps, h.get? tab = some (tabObj ps) ∧ TriplesOk ps.toList := by
  rcases t with g | ⟨c2, g, _⟩
  · exact ⟨_, g, trivial⟩
  · exact ⟨_, g, by simp [TriplesOk, rawInt]⟩
theorem tri_str {l : List Value} {x : Str} {u : Tok} (ok : TriplesOk l) (e : l[1]? = some (.str x u)) : False := by
  fun_induction TriplesOk l with
  | case1 => cases e
  | case2 => cases e
  | case3 => exact ok.elim
theorem tabo_ne {h : Heap} {tab c : Addr} {qual : Str} {ps : Array Value} (g : h.get? tab = some (tabObj ps)) (ok : TriplesOk ps.toList) (r : h.CodeRec (.ref c) qual) : c ≠ tab := fun q => by
  obtain ⟨c', o, vs, u, e1, e2, e3, e4⟩ := r
  cases e1
  rw [q, g] at e2
  cases e2
  have e3' : ps = vs := by injection e3
  subst e3'
  rw [← Array.getElem?_toList] at e4
  exact tri_str ok e4
theorem TabD.upo {Q : Addr → Prop} {h h' : Heap} {tab tab' : Addr} {pos : Pos} {qual : Str} (t : TabD Q h tab pos qual) {ps : Array Value} (g' : h.get? tab' = some (tabObj ps)) (ok : TriplesOk ps.toList) (hn : tab ≠ tab') (k : ∀ b o, b ≠ tab' → h.get? b = some o → h'.get? b = some o) : TabD Q h' tab pos qual := by
  rcases t with g | ⟨c2, g, q, r⟩
  · exact .inl (k _ _ hn g)
  · have hc := tabo_ne g' ok r
    obtain ⟨c', o, vs, u, e1, e2, e3, e4⟩ := r
    cases e1
    exact .inr ⟨c2, k _ _ hn g, q, c2, o, vs, u, rfl, k _ _ hc e2, e3, e4⟩
theorem TabL.upo {Q : Addr → Prop} {h h' : Heap} {tab tab' : Addr} {qual : Str} (t : TabL Q h tab qual) {ps : Array Value} (g' : h.get? tab' = some (tabObj ps)) (ok : TriplesOk ps.toList) (hn : tab ≠ tab') (k : ∀ b o, b ≠ tab' → h.get? b = some o → h'.get? b = some o) : TabL Q h' tab qual := by
  obtain ⟨qs, g, okq, hq⟩ := t
  refine ⟨qs, k _ _ hn g, okq, fun pos v e => ?_⟩
  obtain ⟨c2, rfl, q, r⟩ := hq pos v e
  have hc := tabo_ne g' ok r
  obtain ⟨c', o, vs, u, e1, e2, e3, e4⟩ := r
  cases e1
  exact ⟨c2, rfl, q, c2, o, vs, u, rfl, k _ _ hc e2, e3, e4⟩
theorem bind_i2d (P : Params) : ∀ vs : List Value, vs.length = 2 → bindArgs (fdAt P 42) ⟨vs, []⟩ = pure ((["a", "n"] : List Str).zip vs) := by
  intro vs h
  obtain ⟨a, b, rfl⟩ := len2 h
  kernel_rfl
theorem hd_i2d {G : G0} (g : GN G) : CodeHd G.g 41 37 := ⟨_, _, _, _, _, _, _, _, _, g.get rfl, rfl, rfl, rfl, rfl, rfl, rfl, rfl, rfl, by decide⟩
theorem fn_i2d {G : G0} (g : GN G) (m : Nat) {a n : Int} (hn : Builtin.Int.intBits n ≤ 64) (hn0 : 0 < n) (hn2 : n < 1000) (h0 : 0 ≤ lenD a n) (h1 : lenD a n ≤ 1000000) (hok : (if a != 0 then okI m a n 0 (lenD a n) (lenD a n).toNat else true) = true) :
    Fn G 42 (m + 1) [.int a, .int n] (intsA (i2d m a n)) := by
  refine Fn.mk g.toOk (sc := ?sc) (fd := fdAt G.w.params 42) (body := bodyAt G.w.params 42) ["a", "n"] ?hsc (g.get (by rfl : (fr.heap_1 G.w.params).lookup 42 = some (objAt G.w.params 42))) rfl
    ⟨41, _, _, _, rfl, g.get rfl, rfl, rfl⟩ rfl rfl rfl rfl ?hnd (by decide) rfl (bind_i2d _) ?hk ?main
  case hsc => conv => lhs; whnf
  case hnd => exact of_decide_eq_true (by rfl)
  case hk =>
    simp only [List.mem_cons, or_false, forall_eq_or_imp, forall_eq, List.not_mem_nil]
    exact ⟨.inl rfl, .inr rfl⟩
  case main =>
  intro nd A s0 L rm W
  conv => arg 3; whnf
  have oA := own_look (C := L) nd (x := "a_digits") rfl
  have oI := own_look (C := L) nd (x := "inner") rfl
  have oN := own_look (C := L) nd (x := "n") rfl
  refine Tri.asgL W (xs := (List.replicate (lenD a n).toNat (0 : Int)).map .int) ?_ (map_all _) (.inr ⟨rfl, oA⟩) fun ad => ?_
  · rw [List.map_replicate]
    refine EvF.mulL (EvP.list (.cons .int .nil)) (n := lenD a n) (EvE.bin (EvE.bin (EvE.bin (EvE.meth (nL W) .bitlen .nil .bitlen) (nC W oN) .add) .int .sub) (nC W oN) (.fdiv (by omega) (by omega))) rfl h0 h1
  refine Tri.def W (c := 41) (tab := 37) (qual := inQual G.w.params 42) rfl rfl rfl (hd_i2d g) (by decide) ?_ ?_ rfl (closure_eq ?_) (.inr ⟨rfl, oI⟩) fun f cdv doc ctv pm => ?_
  · intro Q h t
    have t' : G.TO Q h := t
    rw [g.TO] at t'
    exact t'.1
  · intro Q h h' c' t k e q r
    have t' : G.TO Q h := t
    show G.TO Q h'
    rw [g.TO] at t' ⊢
    obtain ⟨ps0, g0, k0⟩ := tabD_dat t'.1
    exact ⟨.inr ⟨c', e, q, r⟩, t'.2.1.upo g0 k0 (by decide) k, t'.2.2.upo g0 k0 (by decide) k⟩
  · exact free3 (by rfl)
  have hInn := fun s1 (xs : List Int) h1 => inn_of (G := G) W (n := n) (f := f) (ad := ad) (xs := xs.map .int) (s := s1) (s0 := s0) (fd := fdIn G.w.params 42 _ doc pm cdv ctv) (cdv := cdv) (qual := inQual G.w.params 42) (σ := (("inner" : Str), .raw (.ref f)) :: (("a_digits" : Str), .raw (.ref ad)) :: ([("a" : Str), "n"].zip [.int a, .int n])) (names := (inScope G.w.params 42).names) rfl rfl rfl oA oI oN rfl rfl rfl (mem_of_lookup (c := NameKind.free) (by rfl)) (mem_of_lookup (c := NameKind.free) (by rfl)) (mem_of_lookup (c := NameKind.free) (by rfl)) h1
  refine Tri.if W (x := (a != 0)) (EvT.plain (nL W) .int) (fun hx => ?_) (fun hx => ?_)
  · rw [hx, if_pos rfl] at hok
    refine Tri.callN W (f := f) (rs := [.int a, .int 0, .int (lenD a n)]) (fun s h => h) (fun s s' h x => FS.ext W h x) (nSC W oI) (fun s1 h1 => ⟨_, _, (hInn s1 _ h1).fo, fun q => (hInn s1 _ h1).fT (List.mem_append_left _ q), rfl⟩) (.cons (nL W) (.cons .int (.cons ?_ .nil))) (fun E s1 vs h1 hv => ?_)
    · have e : AV.int (lenD a n) = .int (((List.replicate (lenD a n).toNat (0 : Int)).map AV.int).length : Nat) := by
        rw [List.length_map, List.length_replicate, Int.toNat_of_nonneg h0]
      rw [e]
      exact EvE.call (f := .builtin "len") (EvE.name (Has.builtin rfl (g.glob rfl) rfl)) .builtin (.cons (EvE.name (Has.box W (Has.cel W rfl oA) (.tail _ (.tail _ (.head _))))) .nil) (CaR.lenL (by simp; omega))
    have nw := new_of h1 im3 rfl
    refine inner_ok1 g hn m _ s1 _ _ _ (List.replicate (lenD a n).toNat 0) vs _ E rm ((h1.glob W).wk g.toOk fun b p => p.1) (hInn s1 _ h1) ?_ (mut_of W h1 im3) ?_ ?_ ?_ (hv.mono (fun _ _ _ e => e) fun _ _ => trivial) fun s2 ch => ⟨rfl, ?_⟩
    · cases q : G.g.get? ad with
      | none => rfl
      | some ob => rw [h1.gl0.keep ad ob q] at nw; cases nw
    · rw [List.length_replicate]; exact hok
    · simp; omega
    · obtain ⟨ws, hl, hw⟩ := h1.box _ im3
      exact ⟨ws, hl, hw.atoms (map_all _)⟩
    refine fun E' => (?_ : Tri _ _ _ _) E' s2 (FS.back W (l := [_, _]) (r := []) h1 (map_all _) ch)
    refine Tri.back (Tri.retBox W (nSC W oA) (.tail _ (.tail _ (.head _))) (map_all _) rfl fun s v h y => ⟨v, rfl, h.toExt W, ?_⟩)
    unfold i2d
    rw [if_pos hx]
    exact y
  · refine Tri.back (Tri.retBox W (nSC W oA) (.tail _ (.tail _ (.head _))) (map_all _) rfl fun s v h y => ⟨v, rfl, h.toExt W, ?_⟩)
    unfold i2d
    rw [hx, if_neg (by decide)]
    exact y
noncomputable def CaF (c : Cx) (f : Value) (rs : List AV) (res : AV) : Prop := c.Ok → ∀ s vs Q E, c.Φ s → VRs s.heap s.toks c.P rs vs → (∀ v s', Ext c.G s s' → VR s'.heap s'.toks (fun a => s.heap.get? a = none) res v → Q v s') → wpAny c.M c.A (PySem.call f vs []) Q E s
theorem EvF.callB {c : Cx} {x : Str} {p pos : Pos} {es : List Expr} {f : Value} {rs : List AV} {res : AV} (hf : EvE c (.Name x p) (.raw f)) (hc : Callee c f) (ha : EvA c es rs) (h : CaF c f rs res) :
    EvF c (.Call (.Name x p) es [] pos) res := fun o s Q E hs k => by
  rw [arm_eval_Call_Name']
  refine wpAny_bind (hf o s hs _ _ fun v s1 x1 y1 => ?_)
  (first | ((first | replace y1 := VR.intI y1 | replace y1 := VR.strI y1); obtain ⟨_, rfl⟩ := y1) | ((first | replace y1 := VR.rawI y1 | replace y1 := VRs.nilI y1 | replace y1 := VR.boolI y1 | replace y1 := VR.noneI y1); subst y1) | cases y1)
  have hs1 := o.stab _ _ hs x1
  refine callW o hs1 hc ha fun vs s2 x2 y2 => ?_
  exact h o s2 vs _ _ (o.stab _ _ hs1 x2) y2 fun v s3 x3 y3 => k v s3 ((x1.trans x2).trans x3) (y3.mono (fun _ _ _ e => e) fun a p => (x1.trans x2).none p)
theorem CaF.divmod {c : Cx} {a b : Int} (hb : b ≠ 0) (hb2 : b.natAbs < 1073741824) : CaF c (.builtin "divmod") [.int a, .int b] (.tup [.int (a.fdiv b), .int (a.fmod b)]) := by
  intro o s vs Q E hs y k
  replace y := VRs.consI y
  obtain ⟨_, _, rfl, y1, y2⟩ := y
  ·
    replace y2 := VRs.consI y2
    obtain ⟨_, _, rfl, y2, y3⟩ := y2
    ·
      (first | ((first | replace y3 := VR.intI y3 | replace y3 := VR.strI y3); obtain ⟨_, rfl⟩ := y3) | ((first | replace y3 := VR.rawI y3 | replace y3 := VRs.nilI y3 | replace y3 := VR.boolI y3 | replace y3 := VR.noneI y3); subst y3) | cases y3); (first | ((first | replace y1 := VR.intI y1 | replace y1 := VR.strI y1); obtain ⟨_, rfl⟩ := y1) | ((first | replace y1 := VR.rawI y1 | replace y1 := VRs.nilI y1 | replace y1 := VR.boolI y1 | replace y1 := VR.noneI y1); subst y1) | cases y1); (first | ((first | replace y2 := VR.intI y2 | replace y2 := VR.strI y2); obtain ⟨_, rfl⟩ := y2) | ((first | replace y2 := VR.rawI y2 | replace y2 := VRs.nilI y2 | replace y2 := VR.boolI y2 | replace y2 := VR.noneI y2); subst y2) | cases y2)
      refine divmod_int hb ?_ (.inl (PyProof.noPylong_small hb2))
      refine k _ _ (Ext.of (tk := s.toks + 1 + 1) o.g fun b o e => Heap.get?_push_of_some _ e) (.tup (vs := [.int (a.fdiv b) s.toks, .int (a.fmod b) (s.toks + 1)]) (size_none _) ⟨_, Heap.get?_push_size _ rfl, rfl, _, rfl⟩ (.cons .int (.cons .int .nil)))
theorem Has.globalInt {c : Cx} {x : Str} {i : Int} {t : Tok} (hk : c.env.kindOf x = some .globalImplicit) (e : nsIn c.G.K mainGlobals x = some (some (.int i t))) : Has c x (.int i) := fun o s hs => by
  obtain ⟨v, y, k⟩ := Has.global hk e o s hs
  (first | ((first | replace y := VR.intI y | replace y := VR.strI y); obtain ⟨_, rfl⟩ := y) | ((first | replace y := VR.rawI y | replace y := VRs.nilI y | replace y := VR.boolI y | replace y := VR.noneI y); subst y) | cases y)
  exact ⟨_, .int, k⟩
theorem bind_div2 (P : Params) : ∀ vs : List Value, vs.length = 3 → bindArgs (fdAt P 28) ⟨vs, []⟩ = pure ((["a", "b", "n"] : List Str).zip vs) := by
  intro vs h
  obtain ⟨a, b, c, rfl⟩ := len3 h
  kernel_rfl
theorem fn_div2 {G : G0} (g : GN G) (m : Nat) {a b n : Int} (hb : b ≠ 0) (hb2 : b.natAbs < 1073741824) (hl : (Builtin.Int.intBits a : Int) - n ≤ 4000) : Fn G 28 (m + 1) [.int a, .int b, .int n] (.tup [.int (a.fdiv b), .int (a.fmod b)]) := by
  refine Fn.mk g.toOk (sc := ?sc) (fd := fdAt G.w.params 28) (body := bodyAt G.w.params 28) ["a", "b", "n"] ?hsc (g.get (by rfl : (fr.heap_1 G.w.params).lookup 28 = some (objAt G.w.params 28))) rfl
    ⟨27, _, _, _, rfl, g.get rfl, rfl, rfl⟩ rfl rfl rfl rfl ?hnd (by decide) rfl (bind_div2 _) ?hk ?main
  case hsc => conv => lhs; whnf
  case hnd => exact of_decide_eq_true (by rfl)
  case hk =>
    simp only [List.mem_cons, or_false, forall_eq_or_imp, forall_eq, List.not_mem_nil]
    exact ⟨.inl rfl, .inl rfl, .inl rfl⟩
  case main =>
  intro nd A s0 L rm W
  conv => arg 3; whnf
  refine Tri.if W (x := decide ((Builtin.Int.intBits a : Int) - n ≤ 4000)) (EvT.cmp (EvE.bin (EvE.meth (nL W) .bitlen .nil .bitlen) (nL W) .sub) ?_ .leI) (fun hx => ?_) (fun hx => ?_)
  · exact EvE.name (Has.globalInt rfl (g.glob rfl))
  · refine Tri.retF W (EvF.callB (f := .builtin "divmod") (EvE.name (Has.builtin rfl (g.glob rfl) rfl)) .builtin (.cons (nL W) (.cons (nL W) .nil)) (CaF.divmod hb hb2)) fun s v h y => ⟨v, rfl, h.toExt W, y⟩
  · exact absurd hl (of_decide_eq_false hx)
theorem TrR.list {c : Cx} {xs : List AV} (hn : xs.length ≤ 1000000) : TrR c (.list xs) (decide (xs.length ≠ 0)) := by
  intro o s v Q E hs y k
  replace y := VR.listI y
  obtain ⟨a, vs, rfl, pa, hl, hv⟩ := y
  ·
    have e := hv.length
    refine wpAny_truthy_list hl (by rw [List.size_toArray, ← e]; omega) ?_
    have hb : (!vs.toArray.isEmpty) = decide (xs.length ≠ 0) := by
      rw [e]
      cases vs <;> simp
    rw [hb]
    exact k _ .tok
noncomputable def d2 : Nat → List Int → Int → Int → Int → Int
  | 0, _, _, _, _ => 0
  | f + 1, ds, n, L, R => if L + 1 == R then nth ds L else d2 f ds n (midOf L R) R * 2 ^ (shOf n L R).toNat + d2 f ds n L (midOf L R)
noncomputable def okD : Nat → List Int → Int → Int → Int → Bool
  | 0, _, _, _, _ => false
  | f + 1, ds, n, L, R => if L + 1 == R then decide (0 ≤ L) && decide (L < ds.length) else decide (0 ≤ shOf n L R) && decide (shOf n L R ≤ 1000000) && decide ((d2 f ds n (midOf L R) R).natAbs < 2 ^ 64) && okD f ds n L (midOf L R) && okD f ds n (midOf L R) R
theorem clo_cell0 {fc : FC} {s0 s : Shared} {σ β} (W : fc.Ok) (h : FS fc s0 σ β s) {x : Str} {r : AV} (ho : ∃ b, fc.own.lookup x = some b) (hv : σ.lookup x = some r) {names : List (Str × NameKind)} (hx : (x, NameKind.free) ∈ names) :
    ∃ b v, (clOf fc.env names []).lookup x = some b ∧ b ∉ Tb ∧ s.heap.IsCell b (some v) ∧ VR s.heap s.toks (PF fc β) r v := by
  obtain ⟨b, hb0⟩ := ho
  obtain ⟨b', h1, h2⟩ := clOf_lookup (env := fc.env) (acc := []) hx
  rw [W.F.cells x b hb0] at h2
  have h2' : b' = b := h2
  subst h2'
  have fm : b' ∈ FAd fc.env fc.own := .tail _ (List.mem_map.mpr ⟨_, mem_of_lookup hb0, rfl⟩)
  obtain ⟨ov, hc, h3⟩ := h.vars.cel x b' hb0
  obtain ⟨v, rfl, y⟩ := h3 r hv
  exact ⟨b', v, h1, (W.F.off b' fm).2, hc, y⟩
structure InnD (ds : List Int) (n : Int) (f : Addr) (fd : FuncData) (s : Shared) : Prop where
  fo : s.heap.get? f = some { cls := .type "function", data := .func fd }
  fT : f ∉ Tb
  cd : ∃ c o vs t, fd.code = .ref c ∧ c ∉ Tb ∧ s.heap.get? c = some o ∧ o.data = .fields vs ∧ vs[1]? = some (.str fd.qualname t)
  c1 : ∃ b v, fd.closure.lookup ("digits" : Str) = some b ∧ b ∉ Tb ∧ s.heap.IsCell b (some v) ∧ VR s.heap s.toks NT (intsA ds) v
  c2 : ∃ b, fd.closure.lookup ("inner" : Str) = some b ∧ b ∉ Tb ∧ s.heap.IsCell b (some (.ref f))
  c3 : ∃ b t, fd.closure.lookup ("n" : Str) = some b ∧ b ∉ Tb ∧ s.heap.IsCell b (some (.int n t))
theorem InnD.keep {ds n f fd s s'} (h : InnD ds n f fd s) (x : Kp Tb s s') : InnD ds n f fd s' := by
  obtain ⟨h1, h2, ⟨c, o, vs, t, e1, e2, e3, e4, e5⟩, ⟨b1, v1, p1, q1, ⟨o1, g1, d1⟩, y1⟩, ⟨b2, p2, q2, o2, g2, d2⟩, ⟨b3, t3, p3, q3, o3, g3, d3⟩⟩ := h
  exact ⟨x.keep _ _ h2 h1, h2, ⟨c, o, vs, t, e1, e2, x.keep _ _ e2 e3, e4, e5⟩, ⟨b1, v1, p1, q1, ⟨o1, x.keep _ _ q1 g1, d1⟩, y1.mono (fun b ob p e => x.keep b ob p e) (fun _ p => p) x.le⟩, ⟨b2, p2, q2, o2, x.keep _ _ q2 g2, d2⟩, ⟨b3, t3, p3, q3, o3, x.keep _ _ q3 g3, d3⟩⟩
noncomputable def InnDC (G : G0) (ds : List Int) (n : Int) (f : Addr) (fd : FuncData) (m : Nat) : Prop := ∀ A s L R vs Q E, Rm A m → Glob G NT s → InnD ds n f fd s → okD m ds n L R = true → VRs s.heap s.toks (fun _ => True) [.int L, .int R] vs →
  (∀ v s', Ext G s s' → VR s'.heap s'.toks (fun _ => False) (.int (d2 m ds n L R)) v → Q v s') → wpAny (model G.prog G.w) A (PySem.call (.ref f) vs []) Q E s
theorem EvE.callC {fc : FC} {s0 : Shared} {σ β} (W : fc.Ok) {x : Str} {p pos : Pos} {es : List Expr} {f : Addr} {rs : List AV} {res : AV} (hf : EvE (cx fc s0 σ β) (.Name x p) (.raw (.ref f))) (hc : ∀ s, FS fc s0 σ β s → ∃ ob fd, s.heap.get? f = some ob ∧ f ∉ Tb ∧ ob.data = .func fd) (ha : EvA (cx fc s0 σ β) es rs)
    (h : ∀ s vs Q E, FS fc s0 σ β s → VRs s.heap s.toks (PF fc []) rs vs → (∀ v s', Ext fc.G s s' → VR s'.heap s'.toks (fun _ => False) res v → Q v s') → wpAny (model fc.G.prog fc.G.w) fc.A (PySem.call (.ref f) vs []) Q E s) :
    EvE (cx fc s0 σ β) (.Call (.Name x p) es [] pos) res := fun o s hs Q E k => by
  rw [arm_eval_Call_Name']
  refine wpAny_bind (hf o s hs _ _ fun v s1 x1 y1 => ?_)
  (first | ((first | replace y1 := VR.intI y1 | replace y1 := VR.strI y1); obtain ⟨_, rfl⟩ := y1) | ((first | replace y1 := VR.rawI y1 | replace y1 := VRs.nilI y1 | replace y1 := VR.boolI y1 | replace y1 := VR.noneI y1); subst y1) | cases y1)
  have hs1 := o.stab _ _ hs x1
  refine callW o hs1 (fun s hs => .inr ?_) ha fun vs s2 x2 y2 => ?_
  · obtain ⟨ob, fd, h1, h2, h3⟩ := hc s hs
    exact ⟨f, ob, fd, rfl, h1, h2, h3⟩
  exact h s2 vs _ _ (o.stab _ _ hs1 x2) y2 fun v s3 x3 y3 => k v s3 ((x1.trans x2).trans x3) (y3.mono (fun _ _ h _ => h.elim) fun a p => p.elim)
theorem innerD {G : G0} (g : GN G) {ds : List Int} {n : Int} {f : Addr} {clos : List (Str × Addr)} {doc pm cdv ctv : Value} (hn : Builtin.Int.intBits n ≤ 64) (hds : ds.length ≤ 1000000) : ∀ m, InnDC G ds n f (fdIn G.w.params 49 clos doc pm cdv ctv) m := by
  intro m
  induction m with
  | zero => intro A s L R vs Q E rm gl hF ok; exact absurd ok (by simp [okD])
  | succ m ih =>
    intro A s L R vs Q E rm gl hF ok hv k
    obtain ⟨cc, co, cvs, ct, e1, e2, e3, e4, e5⟩ := hF.cd
    obtain ⟨v1, v2, rfl, y1, y2⟩ := VRs.two hv
    have hbind : bindArgs (fdIn G.w.params 49 clos doc pm cdv ctv) ⟨[v1, v2], []⟩ = pure ((["L", "R"] : List Str).zip [v1, v2]) := by kernel_rfl
    refine clo_call g.toOk (sc := ?sc) (fd := fdIn G.w.params 49 clos doc pm cdv ctv) (body := inBody G.w.params 49) (O := []) (β0 := []) (rs := [.int L, .int R]) ["L", "R"] ?hsc rm gl (.cons (y1.atom rfl) (.cons (y2.atom rfl) .nil)) hF.fo rfl ⟨cc, co, cvs, ct, e1, e3, e4, e5⟩ rfl rfl rfl ?hcell (by decide) rfl hbind ?hk (fun a h => (nomatch h)) (fun a h => (nomatch h)) (fun a h => (nomatch h)) .nil ?hT ?main
    case hsc => conv => lhs; whnf
    case hcell => exact noCell (by rfl)
    case hk =>
      simp only [List.mem_cons, or_false, forall_eq_or_imp, forall_eq, List.not_mem_nil]
      exact ⟨rfl, rfl⟩
    case hT => intro P t; exact g.tmono _ _ _ t fun a _ p _ => ⟨p, nofun⟩
    case main =>
    intro L' env W
    conv => arg 3; whnf
    have cA : ∀ σ β, CellHas (cs (fcCS G (A.deeper env) (fdIn G.w.params 49 clos doc pm cdv ctv) _ L' f []) s σ β) "digits" (intsA ds) := fun σ β => by
      obtain ⟨b, v, p, q, hc, y⟩ := hF.c1
      exact CellHas.clo W p (fun h => (List.mem_append.mp h).elim q nofun) hc (y.mono (fun _ _ _ e => e) fun b p => ⟨p, nofun⟩)
    have cI : ∀ σ β, CellHas (cs (fcCS G (A.deeper env) (fdIn G.w.params 49 clos doc pm cdv ctv) _ L' f []) s σ β) "inner" (.raw (.ref f)) := fun σ β => by
      obtain ⟨b, p, q, hc⟩ := hF.c2
      exact CellHas.clo W p (fun h => (List.mem_append.mp h).elim q nofun) hc .raw
    have cN : ∀ σ β, CellHas (cs (fcCS G (A.deeper env) (fdIn G.w.params 49 clos doc pm cdv ctv) _ L' f []) s σ β) "n" (.int n) := fun σ β => by
      obtain ⟨b, t, p, q, hc⟩ := hF.c3
      exact CellHas.clo W p (fun h => (List.mem_append.mp h).elim q nofun) hc .int
    unfold okD at ok
    refine Tri.if W (x := (L + 1 == R)) (EvT.cmp (EvE.bin (nL W) .int .add) (nL W) .eqI) (fun hx => ?_) (fun hx => ?_)
    · rw [if_pos hx] at ok
      simp only [Bool.and_eq_true, decide_eq_true_eq] at ok
      refine Tri.ret W (r := .int (nth ds L)) (EvE.sub (nFreeB W (cA _ _)) (nL W) (OpR.itemL ok.1 (by omega) (intsA_get ok.1 ok.2))) fun s1 v h1 y => ?_
      refine k v s1 (h1.toExt W) ?_
      unfold d2
      rw [if_pos hx]
      exact y.atom rfl
    · have hx' : ¬ (L + 1 == R) = true := by rw [hx]; decide
      rw [if_neg hx'] at ok
      simp only [Bool.and_eq_true, decide_eq_true_eq] at ok
      obtain ⟨⟨⟨⟨k1, k2⟩, k3⟩, k4⟩, k5⟩ := ok
      refine Tri.back ?_
      refine Tri.asgA W (r := .int (midOf L R)) (EvE.bin (EvE.bin (nL W) (nL W) .add) .int (.shr (by decide))) rfl (.inl rfl) ?_
      refine Tri.asgA W (r := .int (shOf n L R)) (EvE.bin (EvE.bin (nL W) (nL W) .sub) (nFreeB W (cN _ _)) (.mul (.of_right hn))) rfl (.inl rfl) ?_
      have base : ∀ (s1 : Shared) (σ : List (Str × AV)), FS (fcCS G (A.deeper env) (fdIn G.w.params 49 clos doc pm cdv ctv) _ L' f []) s σ [] s1 → InnD ds n f (fdIn G.w.params 49 clos doc pm cdv ctv) s1 ∧ Glob G NT s1 := fun s1 σ h => ⟨hF.keep (h.toExt W).toKp, (h.glob W).wk g.toOk fun b p => p.1⟩
      refine Tri.ret W (r := .int (d2 m ds n (midOf L R) R * 2 ^ (shOf n L R).toNat + d2 m ds n L (midOf L R))) (EvE.bin (EvE.bin (EvE.callC W (nFreeB W (cI _ _)) ?_ (.cons (nL W) (.cons (nL W) .nil)) ?_) (nL W) (.shl k1 k2 k3)) (EvE.callC W (nFreeB W (cI _ _)) ?_ (.cons (nL W) (.cons (nL W) .nil)) ?_) .add) fun s1 v h1 y => ?_
      · exact fun s1 h1 => ⟨_, _, (base s1 _ h1).1.fo, hF.fT, rfl⟩
      · exact fun s1 vs Q E h1 hv kk => ih _ s1 _ _ vs Q E (deeper_rm rm) (base s1 _ h1).2 (base s1 _ h1).1 k5 (hv.mono (fun _ _ _ e => e) fun _ _ => trivial) kk
      · exact fun s1 h1 => ⟨_, _, (base s1 _ h1).1.fo, hF.fT, rfl⟩
      · exact fun s1 vs Q E h1 hv kk => ih _ s1 _ _ vs Q E (deeper_rm rm) (base s1 _ h1).2 (base s1 _ h1).1 k4 (hv.mono (fun _ _ _ e => e) fun _ _ => trivial) kk
      · refine k v s1 (h1.toExt W) ?_
        unfold d2
        rw [if_neg hx']
        exact y.atom rfl
theorem bind_d2i (P : Params) : ∀ vs : List Value, vs.length = 2 → bindArgs (fdAt P 49) ⟨vs, []⟩ = pure ((["digits", "n"] : List Str).zip vs) := by
  intro vs h
  obtain ⟨a, b, rfl⟩ := len2 h
  kernel_rfl
theorem hd_d2i {G : G0} (g : GN G) : CodeHd G.g 48 44 := ⟨_, _, _, _, _, _, _, _, _, g.get rfl, rfl, rfl, rfl, rfl, rfl, rfl, rfl, rfl, by decide⟩
noncomputable def d2i (m : Nat) (ds : List Int) (n : Int) : Int := if decide (ds.length ≠ 0) then d2 m ds n 0 ds.length else 0
theorem inD_of {G : G0} {fc : FC} (W : fc.Ok) {s0 s : Shared} {σ : List (Str × AV)} {f : Addr} {n : Int} {ds : List Int} {fd : FuncData} {cdv : Value} {qual : Str} {names : List (Str × NameKind)} (hcl : fd.closure = clOf fc.env names []) (hcode : fd.code = cdv) (hq : fd.qualname = qual)
    (oA : ∃ b, fc.own.lookup ("digits" : Str) = some b) (oI : ∃ b, fc.own.lookup ("inner" : Str) = some b) (oN : ∃ b, fc.own.lookup ("n" : Str) = some b) (vA : σ.lookup ("digits" : Str) = some (intsA ds)) (vI : σ.lookup ("inner" : Str) = some (.raw (.ref f))) (vN : σ.lookup ("n" : Str) = some (.int n))
    (mA : (("digits" : Str), NameKind.free) ∈ names) (mI : (("inner" : Str), NameKind.free) ∈ names) (mN : (("n" : Str), NameKind.free) ∈ names)
    (h1 : FS fc s0 σ [Item.obj f { cls := .type "function", data := .func fd }, Item.code cdv qual] s) : InnD ds n f fd s := by
  obtain ⟨pf, fo⟩ := h1.box _ (.head _)
  obtain ⟨c, o, vs, u, e1, e2, e3, e4, e5⟩ := h1.box _ (.tail _ (.head _))
  obtain ⟨b1, v1, p1, q1, r1, y1⟩ := clo_cell0 W h1 oA vA mA
  obtain ⟨b2, v2, p2, q2, r2, y2⟩ := clo_cell0 W h1 oI vI mI
  obtain ⟨b3, v3, p3, q3, r3, y3⟩ := clo_cell0 W h1 oN vN mN
  (first | ((first | replace y2 := VR.intI y2 | replace y2 := VR.strI y2); obtain ⟨_, rfl⟩ := y2) | ((first | replace y2 := VR.rawI y2 | replace y2 := VRs.nilI y2 | replace y2 := VR.boolI y2 | replace y2 := VR.noneI y2); subst y2) | cases y2); (first | ((first | replace y3 := VR.intI y3 | replace y3 := VR.strI y3); obtain ⟨_, rfl⟩ := y3) | ((first | replace y3 := VR.rawI y3 | replace y3 := VRs.nilI y3 | replace y3 := VR.boolI y3 | replace y3 := VR.noneI y3); subst y3) | cases y3)
  refine ⟨fo, pf.1, ⟨c, o, vs, u, hcode ▸ e1, e2.1, e3, e4, hq ▸ e5⟩, ⟨b1, v1, hcl ▸ p1, q1, r1, y1.mono (fun _ _ _ e => e) fun a p => p.1⟩, ⟨b2, hcl ▸ p2, q2, r2⟩, ⟨b3, _, hcl ▸ p3, q3, r3⟩⟩
theorem fn_d2i {G : G0} (g : GN G) (m : Nat) {ds : List Int} {n : Int} (hn : Builtin.Int.intBits n ≤ 64) (hds : ds.length ≤ 1000000) (hok : (if decide (ds.length ≠ 0) then okD m ds n 0 ds.length else true) = true) :
    Fn G 49 (m + 1) [intsA ds, .int n] (.int (d2i m ds n)) := by
  refine Fn.mk g.toOk (sc := ?sc) (fd := fdAt G.w.params 49) (body := bodyAt G.w.params 49) ["digits", "n"] ?hsc (g.get (by rfl : (fr.heap_1 G.w.params).lookup 49 = some (objAt G.w.params 49))) rfl
    ⟨48, _, _, _, rfl, g.get rfl, rfl, rfl⟩ rfl rfl rfl rfl ?hnd (by decide) rfl (bind_d2i _) ?hk ?main
  case hsc => conv => lhs; whnf
  case hnd => exact of_decide_eq_true (by rfl)
  case hk =>
    simp only [List.mem_cons, or_false, forall_eq_or_imp, forall_eq, List.not_mem_nil]
    exact ⟨.inr rfl, .inr rfl⟩
  case main =>
  intro nd A s0 L rm W
  conv => arg 3; whnf
  have oA := own_look (C := L) nd (x := "digits") rfl
  have oI := own_look (C := L) nd (x := "inner") rfl
  have oN := own_look (C := L) nd (x := "n") rfl
  refine Tri.def W (c := 48) (tab := 44) (qual := inQual G.w.params 49) rfl rfl rfl (hd_d2i g) (by decide) ?_ ?_ rfl (closure_eq ?_) (.inr ⟨rfl, oI⟩) fun f cdv doc ctv pm => ?_
  · intro Q h t
    have t' : G.TO Q h := t
    rw [g.TO] at t'
    exact t'.2.1
  · intro Q h h' c' t k e q r
    have t' : G.TO Q h := t
    show G.TO Q h'
    rw [g.TO] at t' ⊢
    obtain ⟨ps0, g0, k0⟩ := tabD_dat t'.2.1
    exact ⟨t'.1.upo g0 k0 (by decide) k, .inr ⟨c', e, q, r⟩, t'.2.2.upo g0 k0 (by decide) k⟩
  · exact free3 (by rfl)
  have hInn := fun s1 h1 => inD_of (G := G) W (n := n) (f := f) (ds := ds) (s := s1) (s0 := s0) (fd := fdIn G.w.params 49 _ doc pm cdv ctv) (cdv := cdv) (qual := inQual G.w.params 49) (σ := (("inner" : Str), .raw (.ref f)) :: ([("digits" : Str), "n"].zip [intsA ds, .int n])) (names := (inScope G.w.params 49).names) rfl rfl rfl oA oI oN rfl rfl rfl (mem_of_lookup (c := NameKind.free) (by rfl)) (mem_of_lookup (c := NameKind.free) (by rfl)) (mem_of_lookup (c := NameKind.free) (by rfl)) h1
  refine Tri.ret W (r := .int (d2i m ds n)) ?_ fun s v h y => ⟨v, rfl, h.toExt W, y.atom rfl⟩
  unfold d2i
  have hlen : ((ds.map AV.int).length : Nat) = ds.length := List.length_map ..
  refine EvE.ifI (EvT.plain (nC W oA) (hlen ▸ TrR.list (xs := ds.map AV.int) (by rw [hlen]; exact hds))) (fun hx => ?_) fun hx => .int
  rw [hx, if_pos rfl] at hok
  refine EvE.callC W (nC W oI) (fun s1 h1 => ⟨_, _, (hInn s1 h1).fo, (hInn s1 h1).fT, rfl⟩) (rs := [.int 0, .int ds.length]) (.cons .int (.cons ?_ .nil)) (fun s1 vs Q E h1 hv kk => innerD g hn hds m _ s1 _ _ vs Q E rm ((h1.glob W).wk g.toOk fun b p => p.1) (hInn s1 h1) hok (hv.mono (fun _ _ _ e => e) fun _ _ => trivial) kk)
  rw [← hlen]
  exact EvE.call (f := .builtin "len") (EvE.name (Has.builtin rfl (g.glob rfl) rfl)) .builtin (.cons (nC W oA) .nil) (CaR.lenL (by rw [hlen]; exact hds))
theorem EvI.rev {c : Cx} {x : Str} {p pos : Pos} {e : Expr} {xs : List AV} (hf : EvE c (.Name x p) (.raw (.type "reversed"))) (h : EvE c e (.list xs)) (hn : xs.length ≤ 1000000) (he : starEach [e] c.env = [(false, eval e c.env)] := by rfl) :
    EvI c (.Call (.Name x p) [e] [] pos) xs.reverse := fun o s Q E hs k => by
  rw [arm_eval_Call_Name']
  refine wpAny_bind (hf o s hs _ _ fun v s1 x1 y1 => ?_)
  (first | ((first | replace y1 := VR.intI y1 | replace y1 := VR.strI y1); obtain ⟨_, rfl⟩ := y1) | ((first | replace y1 := VR.rawI y1 | replace y1 := VRs.nilI y1 | replace y1 := VR.boolI y1 | replace y1 := VR.noneI y1); subst y1) | cases y1)
  have hs1 := o.stab _ _ hs x1
  have ha : EvA c [e] [.list xs] := .cons h .nil he
  refine callW o hs1 .type ha fun vs s2 x2 y2 => ?_
  replace y2 := VRs.consI y2
  obtain ⟨_, _, rfl, yv, yn⟩ := y2
  ·
    (first | ((first | replace yn := VR.intI yn | replace yn := VR.strI yn); obtain ⟨_, rfl⟩ := yn) | ((first | replace yn := VR.rawI yn | replace yn := VRs.nilI yn | replace yn := VR.boolI yn | replace yn := VR.noneI yn); subst yn) | cases yn)
    replace yv := VR.listI yv
    obtain ⟨a, vs, rfl, pa, hl, hv⟩ := yv
    ·
      show wpAny _ _ (PySem.call (.type "reversed") [.ref a]) _ _ _
      refine call_reversed_list hl ?_
      have hI := size_none s2.heap
      obtain ⟨ol, eol, _⟩ := id hl
      have hne : a ≠ s2.heap.objs.size := get_ne eol hI
      have e1 : vs.toArray.size = xs.length := by rw [List.size_toArray, hv.length]
      have x3 := ext_push o (s := s2) (ob := revObj a ((vs.toArray.size : Int) - 1))
      have W := Walks.listRev (prog := c.G.prog) (w := c.G.w) (A := c.A) o.hd s2.heap.objs.size a hne vs.toArray
      have rit : (s2.heap.push (revObj a ((vs.toArray.size : Int) - 1))).IsRevIter s2.heap.objs.size a ((vs.toArray.size : Int) - 1) := ⟨_, Heap.get?_push_size _ rfl, rfl, rfl⟩
      refine wpAny_pyIter_revIter rit ?_
      refine k s2.heap.objs.size [s2.heap.objs.size, a] [s2.heap.objs.size] (fun i v => vs.toArray[vs.toArray.size - 1 - i]? = some v) (fun i h => i ≤ vs.toArray.size ∧ h.IsRevIter s2.heap.objs.size a ((vs.toArray.size : Int) - 1 - (i : Int)) ∧ h.IsList a vs.toArray) _ (Iter1.mk ((x1.trans x2).trans x3) (tabs_push o (x1.trans x2) hI) (by rw [List.length_reverse, ← e1]; exact W) ⟨Nat.zero_le _, by simpa using rit, hl.push _⟩ ?_ ?_ ?_ ?_ (by rw [List.length_reverse]; exact hn))
      · intro i h st b hb
        rw [List.mem_singleton.mp hb]
        obtain ⟨o', e', _⟩ := st.2.1
        exact ⟨o', e'⟩
      · intro b hb
        rw [List.mem_singleton.mp hb]
        exact (x1.trans x2).none hI
      · intro b hb
        rcases List.mem_cons.mp hb with rfl | hb
        · exact ⟨o.fresh s2 _ (o.stab _ _ hs (x1.trans x2)) hI, _, Heap.get?_push_size _ rfl⟩
        · rw [List.mem_singleton.mp hb]; exact ⟨pa, _, Heap.get?_push_of_some _ eol⟩
      · intro i v r hx hp
        have hi : i < xs.length := by
          have := (List.getElem?_eq_some_iff.mp hx).1
          rwa [List.length_reverse] at this
        rw [List.getElem?_reverse hi] at hx
        obtain ⟨v', e', y⟩ := hv.get _ hx
        have hp' : vs[vs.length - 1 - i]? = some v := by simpa using hp
        rw [← hv.length, e'] at hp'
        cases hp'
        have y1 := y.lt (P' := fun a => c.P a ∧ a ∉ [s2.heap.objs.size]) fun b ob pb eb => ⟨pb, fun q => get_ne eb hI (List.mem_singleton.mp q)⟩
        exact y1.mono (fun b ob _ eb => Heap.get?_push_of_some _ eb) fun _ p => p
theorem EvG.nm {c : Cx} {e : Expr} {xs : List AV} {x : Str} {px : Pos} {n : Nat} (h : EvI c e xs) (hl : xs.length = n) (f : Nat → AV) (hf : ∀ i, i < n → xs[i]? = some (f i)) : EvG c e (.Name x px) n (fun i => [(x, f i)]) (fun env own P' => Kd env own x) := by
  subst hl; exact EvG.name h f hf
noncomputable def dpR (ds : List Int) (n b : Int) : Nat → Int
  | 0 => 0
  | i + 1 => (dpR ds n b i * 2 ^ n.toNat + nth ds.reverse (i : Nat)).fmod b
noncomputable def dpA (ds : List Int) (n b : Int) (i : Nat) : Int := dpR ds n b i * 2 ^ n.toNat + nth ds.reverse (i : Nat)
noncomputable def dpQ (ds : List Int) (n b : Int) (i : Nat) : List Int := (List.range i).map fun j => (dpA ds n b j).fdiv b
theorem dpQ_succ (ds : List Int) (n b : Int) (i : Nat) : dpQ ds n b (i + 1) = dpQ ds n b i ++ [(dpA ds n b i).fdiv b] := by
  unfold dpQ; rw [List.range_succ, List.map_append]; rfl
theorem AsRs.two {env : Env} {own : List (Str × Addr)} {P : Addr → Prop} (F : FOk env own P) {x y : Str} {p q : Pos} {r1 r2 : AV} (hx : Kd env own x) (hy : Kd env own y) : AsRs env own P [.Name x p, .Name y q] [r1, r2] [(y, r2), (x, r1)] :=
  AsRs.cons F (AsR.name F hx) (AsRs.cons F (AsR.name F hy) .nil)
theorem bind_dp (P : Params) : ∀ vs : List Value, vs.length = 2 → bindArgs (fdAt P 56) ⟨vs, []⟩ = pure ((["a", "b"] : List Str).zip vs) := by
  intro vs h
  obtain ⟨a, b, rfl⟩ := len2 h
  kernel_rfl
theorem fn_dp {G : G0} (g : GN G) (m u : Nat) {a b : Int} (hb : 0 < b) (hb2 : b.natAbs < 1073741824)
    (hI : Fn G 42 m [.int a, .int (Builtin.Int.intBits b : Nat)] (intsA (i2d u a (Builtin.Int.intBits b : Nat))))
    (hD : Fn G 49 m [intsA (dpQ (i2d u a (Builtin.Int.intBits b : Nat)) (Builtin.Int.intBits b : Nat) b (i2d u a (Builtin.Int.intBits b : Nat)).length).reverse, .int (Builtin.Int.intBits b : Nat)] (.int (d2i u (dpQ (i2d u a (Builtin.Int.intBits b : Nat)) (Builtin.Int.intBits b : Nat) b (i2d u a (Builtin.Int.intBits b : Nat)).length).reverse (Builtin.Int.intBits b : Nat))))
    (hlen : (i2d u a (Builtin.Int.intBits b : Nat)).length ≤ 1000) (hm : 0 < m) (hnb : Builtin.Int.intBits b ≤ 1000)
    (hfit : ∀ i, i < (i2d u a (Builtin.Int.intBits b : Nat)).length → (dpR (i2d u a (Builtin.Int.intBits b : Nat)) (Builtin.Int.intBits b : Nat) b i).natAbs < 2 ^ 64 ∧ (Builtin.Int.intBits (dpA (i2d u a (Builtin.Int.intBits b : Nat)) (Builtin.Int.intBits b : Nat) b i) : Int) - (Builtin.Int.intBits b : Nat) ≤ 4000) :
    Fn G 56 (m + 1) [.int a, .int b] (.tup [.int (d2i u (dpQ (i2d u a (Builtin.Int.intBits b : Nat)) (Builtin.Int.intBits b : Nat) b (i2d u a (Builtin.Int.intBits b : Nat)).length).reverse (Builtin.Int.intBits b : Nat)), .int (dpR (i2d u a (Builtin.Int.intBits b : Nat)) (Builtin.Int.intBits b : Nat) b (i2d u a (Builtin.Int.intBits b : Nat)).length)]) := by
  generalize hn : ((Builtin.Int.intBits b : Nat) : Int) = n at *
  generalize hds : i2d u a n = ds at *
  refine Fn.mk g.toOk (sc := ?sc) (fd := fdAt G.w.params 56) (body := bodyAt G.w.params 56) ["a", "b"] ?hsc (g.get (by rfl : (fr.heap_1 G.w.params).lookup 56 = some (objAt G.w.params 56))) rfl
    ⟨55, _, _, _, rfl, g.get rfl, rfl, rfl⟩ rfl rfl rfl rfl ?hnd (by decide) rfl (bind_dp _) ?hk ?main
  case hsc => conv => lhs; whnf
  case hnd => exact of_decide_eq_true (by rfl)
  case hk =>
    simp only [List.mem_cons, or_false, forall_eq_or_imp, forall_eq, List.not_mem_nil]
    exact ⟨.inl rfl, .inl rfl⟩
  case main =>
  intro nd A s0 L rm W
  conv => arg 3; whnf
  have hn' : AV.int n = .int (Builtin.Int.intBits b : Nat) := by rw [hn]
  refine Tri.asgA W (r := .int n) (hn' ▸ EvE.meth (nL W) .bitlen .nil .bitlen) rfl (.inl rfl) ?_
  refine Tri.asgF W (r := intsA ds) (EvF.call (EvE.name (Has.global rfl (g.glob rfl))) (g.get (by rfl : (fr.heap_1 G.w.params).lookup 42 = some (objAt G.w.params 42))) (fd := fdAt G.w.params 42) rfl (.cons (nL W) (.cons (nL W) .nil)) hI rm) (.inl rfl) ?_
  refine Tri.asgA W (r := .int 0) .int rfl (.inl rfl) ?_
  refine Tri.asgP W (.list .nil) (.inl rfl) fun qd => ?_
  have hlr : ((ds.map AV.int).reverse).length = ds.length := by simp
  refine Tri.for W (n := ds.length) (bs := fun i => [(("a_digit" : Str), AV.int (nth ds.reverse (i : Nat)))]) (Tg := fun env own P' => Kd env own "a_digit")
    (σs := fun i => [(("r" : Str), .int (dpR ds n b i)), (("q_digits" : Str), .raw (.ref qd)), (("a_digits" : Str), intsA ds), (("n" : Str), .int n), (("a" : Str), .int a), (("b" : Str), .int b)])
    (βs := fun i => [Item.plist qd ((dpQ ds n b i).map .int)]) (fun _ => True) ?_ (fun P' F => .inl rfl) rfl ?_ trivial ?_ (fun i _ => rfl) (fun _ => ?_)
  · refine EvG.nm (EvI.rev (xs := ds.map AV.int) ?_ ?_ (by rw [List.length_map]; omega)) hlr (fun i => AV.int (nth ds.reverse (i : Nat))) ?_
    · exact EvE.name (Has.builtin rfl (g.glob rfl) rfl)
    · exact nS
    · intro i hi
      rw [← List.map_reverse]
      have := intsA_get (l := ds.reverse) (i := (i : Int)) (by omega) (by rw [List.length_reverse]; omega)
      simpa using this
  · simp only [List.mem_cons, or_false, forall_eq_or_imp, forall_eq, List.not_mem_nil]
    exact ⟨rfl, rfl, rfl, rfl, rfl, rfl⟩
  · intro i it hi _
    have hr : AV.int (dpA ds n b i) = .int (dpR ds n b i * 2 ^ n.toNat + nth ds.reverse (i : Nat)) := rfl
    refine Tri.asgT W (rs := [.int ((dpA ds n b i).fdiv b), .int ((dpA ds n b i).fmod b)]) (EvF.ev (EvF.call (f := 28) (k := 1) (rs := [.int (dpA ds n b i), .int b, .int n]) (EvE.name (Has.global rfl (g.glob rfl))) (g.get (by rfl : (fr.heap_1 G.w.params).lookup 28 = some (objAt G.w.params 28))) (fd := fdAt G.w.params 28) rfl
      (.cons (hr ▸ EvE.bin (EvE.bin nS nS (.shl (by omega) (by omega) (hfit i hi).1)) nS .add) (.cons nS (.cons nS .nil))) (fn_div2 g 0 (by omega) hb2 (hfit i hi).2) (rm.le (by omega)))) (AsRs.two W.Fb (.inl rfl) (.inl rfl)) ?_
    refine Tri.append W (l := [it]) (r := []) (a := qd) (y := .int ((dpA ds n b i).fdiv b)) nS nS (by simp [dpQ]; omega) (Tri.nil fun s h => ⟨trivial, ?_⟩)
    rw [dpQ_succ, List.map_append]
    refine FS.sub h ?_
    simp only [List.mem_cons, or_false, forall_eq_or_imp, forall_eq, List.not_mem_nil]
    exact ⟨rfl, rfl, rfl, rfl, rfl, rfl⟩
  · refine Tri.back ?_
    refine Tri.reverse W (l := []) (r := []) (a := qd) nS (by simp [dpQ]; omega) ?_
    rw [← List.map_reverse]
    refine Tri.asgA W (r := .int (d2i u (dpQ ds n b ds.length).reverse n)) (EvF.ev (EvF.call (f := 49) (rs := [intsA (dpQ ds n b ds.length).reverse, .int n]) (EvE.name (Has.global rfl (g.glob rfl))) (g.get (by rfl : (fr.heap_1 G.w.params).lookup 49 = some (objAt G.w.params 49))) (fd := fdAt G.w.params 49) rfl
      (.cons (EvE.name (Has.boxP W (Has.loc rfl rfl) (.head _))) (.cons (nL W) .nil)) hD rm)) rfl (.inl rfl) ?_
    exact Tri.retF W (EvF.tuple (.cons (nL W) (.cons (nL W) .nil)) rfl (by simp)) fun s v h y => ⟨v, rfl, h.toExt W, y⟩
theorem bind_idm (P : Params) : ∀ vs : List Value, vs.length = 2 → bindArgs (fdAt P 63) ⟨vs, []⟩ = pure ((["a", "b"] : List Str).zip vs) := by
  intro vs h
  obtain ⟨a, b, rfl⟩ := len2 h
  kernel_rfl
theorem fn_idm_pos {G : G0} (g : GN G) (m : Nat) {a b q r : Int} (ha : 0 ≤ a) (hb : 0 < b) (hP : Fn G 56 m [.int a, .int b] (.tup [.int q, .int r])) : Fn G 63 (m + 1) [.int a, .int b] (.tup [.int q, .int r]) := by
  refine Fn.mk g.toOk (sc := ?sc) (fd := fdAt G.w.params 63) (body := bodyAt G.w.params 63) ["a", "b"] ?hsc (g.get (by rfl : (fr.heap_1 G.w.params).lookup 63 = some (objAt G.w.params 63))) rfl
    ⟨62, _, _, _, rfl, g.get rfl, rfl, rfl⟩ rfl rfl rfl rfl ?hnd (by decide) rfl (bind_idm _) ?hk ?main
  case hsc => conv => lhs; whnf
  case hnd => exact of_decide_eq_true (by rfl)
  case hk =>
    simp only [List.mem_cons, or_false, forall_eq_or_imp, forall_eq, List.not_mem_nil]
    exact ⟨.inl rfl, .inl rfl⟩
  case main =>
  intro nd A s0 L rm W
  conv => arg 3; whnf
  refine Tri.if W (x := (b == 0)) (EvT.cmp (nL W) .int .eqI) (fun hx => ?_) (fun hx => ?_)
  · exact absurd hb (by rw [beq_iff_eq.mp hx]; decide)
  refine Tri.if W (x := decide (b < 0)) (EvT.cmp (nL W) .int .ltI) (fun hx => ?_) (fun hx => ?_)
  · have := of_decide_eq_true hx; omega
  refine Tri.if W (x := decide (a < 0)) (EvT.cmp (nL W) .int .ltI) (fun hx => ?_) (fun hx => ?_)
  · have := of_decide_eq_true hx; omega
  exact Tri.retF W (EvF.call (f := 56) (EvE.name (Has.global rfl (g.glob rfl))) (g.get (by rfl : (fr.heap_1 G.w.params).lookup 56 = some (objAt G.w.params 56))) (fd := fdAt G.w.params 56) rfl (.cons (nL W) (.cons (nL W) .nil)) hP rm) fun s v h y => ⟨v, rfl, h.toExt W, y⟩
theorem fn_idm_neg {G : G0} (g : GN G) (m : Nat) {a b q r : Int} (ha : a < 0) (hb : 0 < b) (hP : Fn G 63 m [.int (Builtin.bitNot a), .int b] (.tup [.int q, .int r])) : Fn G 63 (m + 1) [.int a, .int b] (.tup [.int (Builtin.bitNot q), .int (b + Builtin.bitNot r)]) := by
  refine Fn.mk g.toOk (sc := ?sc) (fd := fdAt G.w.params 63) (body := bodyAt G.w.params 63) ["a", "b"] ?hsc (g.get (by rfl : (fr.heap_1 G.w.params).lookup 63 = some (objAt G.w.params 63))) rfl
    ⟨62, _, _, _, rfl, g.get rfl, rfl, rfl⟩ rfl rfl rfl rfl ?hnd (by decide) rfl (bind_idm _) ?hk ?main
  case hsc => conv => lhs; whnf
  case hnd => exact of_decide_eq_true (by rfl)
  case hk =>
    simp only [List.mem_cons, or_false, forall_eq_or_imp, forall_eq, List.not_mem_nil]
    exact ⟨.inl rfl, .inl rfl⟩
  case main =>
  intro nd A s0 L rm W
  conv => arg 3; whnf
  refine Tri.if W (x := (b == 0)) (EvT.cmp (nL W) .int .eqI) (fun hx => ?_) (fun hx => ?_)
  · exact absurd hb (by rw [beq_iff_eq.mp hx]; decide)
  refine Tri.if W (x := decide (b < 0)) (EvT.cmp (nL W) .int .ltI) (fun hx => ?_) (fun hx => ?_)
  · have := of_decide_eq_true hx; omega
  refine Tri.if W (x := decide (a < 0)) (EvT.cmp (nL W) .int .ltI) (fun hx => ?_) (fun hx => ?_)
  · refine Tri.asgT W (rs := [.int q, .int r]) (EvF.ev (EvF.call (f := 63) (rs := [.int (Builtin.bitNot a), .int b]) (EvE.name (Has.global rfl (g.glob rfl))) (g.get (by rfl : (fr.heap_1 G.w.params).lookup 63 = some (objAt G.w.params 63))) (fd := fdAt G.w.params 63) rfl (.cons (EvE.inv nS) (.cons nS .nil)) hP rm)) (AsRs.two W.Fb (.inl rfl) (.inl rfl)) ?_
    exact Tri.retF W (EvF.tuple (.cons (EvE.inv (nL W)) (.cons (EvE.bin (nL W) (EvE.inv (nL W)) .add) .nil)) rfl (by simp)) fun s v h y => ⟨v, rfl, h.toExt W, y⟩
  · have := of_decide_eq_false hx; omega
theorem Fn.lift {G f k rs res} (h : Fn G f k rs res) : Fn G f (k + 1) rs res := fun A s vs Q E rm => h A s vs Q E (rm.le (Nat.le_succ _))
noncomputable def i64 (a : Int) : List Int := i2d 4 a 3
noncomputable def chk4 (a : Int) : Bool := decide (0 ≤ lenD a 3) && decide (lenD a 3 ≤ 1000000) && (if a != 0 then okI 4 a 3 0 (lenD a 3) (lenD a 3).toNat else true) && decide ((i64 a).length ≤ 1000) &&
  (List.range (i64 a).length).all (fun i => decide ((dpR (i64 a) 3 4 i).natAbs < 2 ^ 64) && decide ((Builtin.Int.intBits (dpA (i64 a) 3 4 i) : Int) - 3 ≤ 4000)) &&
  (if decide ((dpQ (i64 a) 3 4 (i64 a).length).reverse.length ≠ 0) then okD 4 (dpQ (i64 a) 3 4 (i64 a).length).reverse 3 0 ((dpQ (i64 a) 3 4 (i64 a).length).reverse.length : Nat) else true) && decide ((dpQ (i64 a) 3 4 (i64 a).length).reverse.length ≤ 1000000) &&
  decide (d2i 4 (dpQ (i64 a) 3 4 (i64 a).length).reverse 3 = a.fdiv 4) && decide (dpR (i64 a) 3 4 (i64 a).length = a.fmod 4)
theorem chk64 : ((List.range 64).all fun a => chk4 (a : Nat)) = true := by decide +kernel
theorem fn_idm4p {G : G0} (g : GN G) {a : Int} (h0 : 0 ≤ a) (h1 : a < 64) : Fn G 63 7 [.int a, .int 4] (.tup [.int (a.fdiv 4), .int (a.fmod 4)]) := by
  have c : chk4 a = true := by
    have := List.all_eq_true.mp chk64 a.toNat (List.mem_range.mpr (by omega))
    rwa [Int.toNat_of_nonneg h0] at this
  unfold chk4 at c
  simp only [Bool.and_eq_true, decide_eq_true_eq] at c
  obtain ⟨⟨⟨⟨⟨⟨⟨⟨c1, c2⟩, c3⟩, c4⟩, c5⟩, c6⟩, c7⟩, c8⟩, c9⟩ := c
  have e3 : Builtin.Int.intBits 4 = 3 := by decide +kernel
  refine fn_idm_pos g 6 h0 (by decide) ?_
  have := fn_dp g 5 4 (a := a) (b := 4) (by decide) (by decide)
  rw [e3] at this
  have e33 : ((3 : Nat) : Int) = 3 := rfl
  rw [e33] at this
  have ez : dpR (i2d 4 a 3) 3 4 (i2d 4 a 3).length = a.fmod 4 := c9
  have eq : d2i 4 (dpQ (i2d 4 a 3) 3 4 (i2d 4 a 3).length).reverse 3 = a.fdiv 4 := c8
  rw [ez, eq] at this
  refine this (fn_i2d g 4 (by decide +kernel) (by decide) (by decide) c1 c2 c3) ?_ c4 (by decide) (by decide) ?_
  · have h := fn_d2i g 4 (ds := (dpQ (i2d 4 a 3) 3 4 (i2d 4 a 3).length).reverse) (n := 3) (by decide +kernel) c7 (by simpa [i64] using c6)
    rw [eq] at h
    exact h
  · intro i hi
    have := List.all_eq_true.mp c5 i (List.mem_range.mpr hi)
    simp only [Bool.and_eq_true, decide_eq_true_eq] at this
    exact this
theorem fn_idm4 {G : G0} (g : GN G) {a : Int} (h0 : -64 ≤ a) (h1 : a < 64) : Fn G 63 8 [.int a, .int 4] (.tup [.int (a.fdiv 4), .int (a.fmod 4)]) := by
  by_cases h : 0 ≤ a
  · exact Fn.lift (fn_idm4p g h h1)
  · have hb : Builtin.bitNot a = -a - 1 := by unfold Builtin.bitNot; omega
    have := fn_idm_neg g 7 (a := a) (b := 4) (by omega) (by decide) (fn_idm4p g (a := Builtin.bitNot a) (by omega) (by omega))
    have e1 : Builtin.bitNot ((Builtin.bitNot a).fdiv 4) = a.fdiv 4 := by
      rw [hb]
      unfold Builtin.bitNot
      rw [Int.fdiv_eq_ediv_of_nonneg _ (by decide), Int.fdiv_eq_ediv_of_nonneg _ (by decide)]
      omega
    have e2 : 4 + Builtin.bitNot ((Builtin.bitNot a).fmod 4) = a.fmod 4 := by
      rw [hb]
      unfold Builtin.bitNot
      rw [Int.fmod_eq_emod_of_nonneg _ (by decide), Int.fmod_eq_emod_of_nonneg _ (by decide)]
      omega
    rw [e1, e2] at this
    exact this
section
variable {fc : FC} {s0 : Shared} {σ : List (Str × AV)} {β : List Item} {Post : Flow → Shared → Prop} {rest : List Stmt}
theorem FS.setSub (W : fc.Ok) {l r : List Item} {o i : Expr} {tp : Pos} {a : Addr} {xs : List AV} {n : Int} {y : AV} {v : Value} {s : Shared} {Q : Unit → Shared → Prop} {E : Value → Shared → Prop} (h1 : EvE (cs fc s0 σ (l ++ Item.list a xs :: r)) o (.raw (.ref a))) (h2 : EvE (cx fc s0 σ (l ++ Item.list a xs :: r)) i (.int n)) (ha : y.atom = true) (h0 : 0 ≤ n) (hn : n < xs.length) (hb : xs.length ≤ 1000000)
    {P : Addr → Prop} {hp : Heap} {τp : Nat} (yv : VR hp τp P y v) (ht : τp ≤ s.toks) (hs : FS fc s0 σ (l ++ Item.list a xs :: r) s) (k : ∀ s', FS fc s0 σ (l ++ Item.list a (xs.set n.toNat y) :: r) s' → Q () s') (hns : noSlice i = true := by rfl) :
    wpAny (model fc.G.prog fc.G.w) fc.A (assign (.Subscript o i tp) fc.env v) Q E s := by
  refine Tri.setL.sub_assign hns ?_
  refine h1 (cs_ok W) s hs _ _ fun v2 s2 x2 y2 => ?_
  (first | ((first | replace y2 := VR.intI y2 | replace y2 := VR.strI y2); obtain ⟨_, rfl⟩ := y2) | ((first | replace y2 := VR.rawI y2 | replace y2 := VRs.nilI y2 | replace y2 := VR.boolI y2 | replace y2 := VR.noneI y2); subst y2) | cases y2)
  have hs2 := FS.ext W hs x2
  refine h2 (cx_ok W) s2 hs2 _ _ fun v3 s3 x3 y3 => ?_
  have hs3 := FS.ext W hs2 x3
  (first | ((first | replace y3 := VR.intI y3 | replace y3 := VR.strI y3); obtain ⟨_, rfl⟩ := y3) | ((first | replace y3 := VR.rawI y3 | replace y3 := VRs.nilI y3 | replace y3 := VR.boolI y3 | replace y3 := VR.noneI y3); subst y3) | cases y3)
  obtain ⟨vs, hl, hv⟩ := hs3.box (Item.list a xs) (List.mem_append_right _ (.head _))
  have hlen := hv.length
  refine wpAny_setItem_list hl h0 (by omega) (by rw [List.size_toArray]; omega) fun h' hl' hsb => ?_
  refine k _ (hs3.set W (j := Item.list a (xs.set n.toNat y)) rfl ⟨h', _, rfl⟩ (fun b ob hb e => hsb.extBut b ob (fun q => hb (List.mem_singleton.mpr q)) e) ?_)
  refine ⟨vs.set n.toNat v, by simpa using hl', (hv.set n.toNat (yv.atom ha (Nat.le_trans ht (Nat.le_trans x2.le x3.le)))).mono (fun b ob pb e => hsb.extBut b ob (fun q => pb.2 (mem_MUs.mpr (.inr ⟨_, List.mem_append_right _ (.head _), List.mem_singleton.mpr q⟩))) e) fun _ p => p⟩
theorem Tri.asgTS (W : fc.Ok) {l r : List Item} {x : Str} {px : Pos} {o i e : Expr} {tp tpos pos : Pos} {k1 : Nat} {a : Addr} {xs : List AV} {n : Int} {r1 r2 : AV} (h : EvE (cx fc s0 σ (l ++ Item.list a xs :: r)) e (.tup [r1, r2])) (a1 : r1.atom = true) (a2 : r2.atom = true) (hx : Kd fc.env fc.own x)
    (h1 : EvE (cs fc s0 ((x, r1) :: σ) (l ++ Item.list a xs :: r)) o (.raw (.ref a))) (h2 : EvE (cx fc s0 ((x, r1) :: σ) (l ++ Item.list a xs :: r)) i (.int n)) (h0 : 0 ≤ n) (hn : n < xs.length) (hb : xs.length ≤ 1000000)
    (k : Tri fc (FS fc s0 ((x, r1) :: σ) (l ++ Item.list a (xs.set n.toNat r2) :: r)) rest Post)
    (hs : swapsWithSole [.Tuple [.Name x px, .Subscript o i tp] k1 tpos] e pos.line fc.env = pure false := by rfl) (hw : swappedStores [.Tuple [.Name x px, .Subscript o i tp] k1 tpos] e fc.env = pure none := by rfl) (hns : noSlice i = true := by rfl)
    (he : assignEach [.Name x px, .Subscript o i tp] fc.env = [(false, assign (.Name x px) fc.env), (false, assign (.Subscript o i tp) fc.env)] := by rfl) :
    Tri fc (FS fc s0 σ (l ++ Item.list a xs :: r)) (.Assign [.Tuple [.Name x px, .Subscript o i tp] k1 tpos] e pos :: rest) Post := Tri.st fun E s hs' => by
  refine Assign_Tuple ?_ hs hw
  refine h (cx_ok W) s hs' _ _ fun v s1 x1 y => ?_
  have hs1 := FS.ext W hs' x1
  replace y := VR.tupI y
  obtain ⟨t, vs, rfl, pt, ht, hv⟩ := y
  ·
    replace hv := VRs.consI hv
    obtain ⟨v1, _, rfl, y1, hv⟩ := hv
    ·
      replace hv := VRs.consI hv
      obtain ⟨v2, _, rfl, y2, hv⟩ := hv
      ·
        (first | ((first | replace hv := VR.intI hv | replace hv := VR.strI hv); obtain ⟨_, rfl⟩ := hv) | ((first | replace hv := VR.rawI hv | replace hv := VRs.nilI hv | replace hv := VR.boolI hv | replace hv := VR.noneI hv); subst hv) | cases hv)
        refine wpAny_assign_Tuple W.rm.1 ht (by rw [he]; rfl) (by rw [he]; rfl) fun h' xb => ?_
        have hs2 := FS.ext W hs1 (Ext.of (tk := s1.toks) W.g fun b ob e => xb b ob (Nat.ne_of_lt (Heap.lt_size e)) e)
        rw [he]
        refine assignInOrder_cons (wpAny_assign_Name (wpAny_mono (wpAny_with_toks (Nat.le_refl s1.toks) (hs2.store W hx (y1.atom a1) fun s3 hs3 hle => ?_)) (fun _ _ h => h) fun _ _ h => h))
        refine assignInOrder_cons (FS.setSub W h1 h2 a2 h0 hn hb y2 hle hs3 (fun s4 hs4 => assignInOrder_nil ?_) hns)
        exact fun E' => k E' s4 hs4
end
noncomputable def qSgn (ps : List (Int × Int)) (pt : Int) : Int := if (nthP ps (pt - 1)).1 == pt then -1 else 1
noncomputable def qDue (ps : List (Int × Int)) (es : List (List Int)) (fl : List Int) (pt : Int) : Int := net ps es fl pt * qSgn ps pt
noncomputable def qFl (ps : List (Int × Int)) (es : List (List Int)) (fl : List Int) (pt : Int) : List Int := fl.set (pt - 1).toNat ((qDue ps es fl pt).fmod 4)
noncomputable def qBad (ps : List (Int × Int)) (es : List (List Int)) (fl : List Int) (pt : Int) : Bool :=
  ((qDue ps es fl pt).fdiv 4 * 4 + nth (qFl ps es fl pt) (pt - 1) != qDue ps es fl pt) || !(decide (0 < nth (qFl ps es fl pt) (pt - 1)) && decide (nth (qFl ps es fl pt) (pt - 1) < 4))
noncomputable def qSt (ps : List (Int × Int)) (es : List (List Int)) (ch : List Int) : Nat → Option (List Int)
  | 0 => some ([0, 0, 0] ++ ch)
  | i + 1 => match qSt ps es ch i with
    | none => none
    | some fl => if qBad ps es fl (nth [3, 2, 1] (i : Nat)) then none else some (qFl ps es fl (nth [3, 2, 1] (i : Nat)))
noncomputable def quarters (ps : List (Int × Int)) (es : List (List Int)) (ch : List Int) : Int := match qSt ps es ch 3 with
  | none => 0
  | some fl => if (net ps es fl 0).fmod 4 == 0 then 1 else 0
theorem qSt_none {ps es ch} : ∀ {i : Nat} (k : Nat), qSt ps es ch i = none → qSt ps es ch (i + k) = none
  | i, 0, h => h
  | i, k + 1, h => by rw [Nat.add_succ]; unfold qSt; rw [qSt_none k h]
theorem qSt_len {ps es ch} : ∀ {i : Nat} {fl}, qSt ps es ch i = some fl → fl.length = 3 + ch.length
  | 0, fl, h => by cases h; simp; omega
  | i + 1, fl, h => by
    unfold qSt at h
    cases e : qSt ps es ch i with
    | none => rw [e] at h; cases h
    | some f =>
      rw [e] at h
      have := qSt_len e
      simp only at h
      split at h
      · cases h
      · cases h; simp [qFl, this]
theorem bind_q (P : Params) : ∀ vs : List Value, vs.length = 3 → bindArgs (fdAt P 146) ⟨vs, []⟩ = pure ((["pipes", "ends", "chosen"] : List Str).zip vs) := by
  intro vs h
  obtain ⟨a, b, c, rfl⟩ := len3 h
  kernel_rfl
structure Wf (ps : List (Int × Int)) (es : List (List Int)) : Prop where
  l0 : ps.length ≤ 100
  l1 : 3 ≤ ps.length
  le : es.length = 4
  en : ∀ pt : Int, 0 ≤ pt → pt < 4 → (nthL es pt).length ≤ 12 ∧ ∀ i : Nat, i < (nthL es pt).length → 0 ≤ nth (nthL es pt) i ∧ nth (nthL es pt) i < ps.length
noncomputable def Sm (fl : List Int) : Prop := ∀ x ∈ fl, -3 ≤ x ∧ x ≤ 3
theorem Sm.nth {fl} (h : Sm fl) (k : Int) : -3 ≤ nth fl k ∧ nth fl k ≤ 3 := by
  unfold Mine.nth
  cases e : fl[k.toNat]? with
  | none => simp
  | some x => exact h x (List.mem_of_getElem? e)
theorem preSum_bd (val : Nat → Int) (n : Nat) (h : ∀ j, j < n → -3 ≤ val j ∧ val j ≤ 3) : ∀ j, j ≤ n → -3 * (j : Int) ≤ preSum val j ∧ preSum val j ≤ 3 * (j : Int)
  | 0, _ => by simp [preSum]
  | j + 1, hj => by
    have := preSum_bd val n h j (by omega)
    have := h j (by omega)
    unfold preSum
    omega
theorem netAt_sm {ps fl} (h : Sm fl) (pt k : Int) : -3 ≤ netAt ps fl pt k ∧ netAt ps fl pt k ≤ 3 := by
  have := h.nth k
  unfold netAt
  split <;> omega
theorem net_bd {ps es fl} (w : Wf ps es) (h : Sm fl) {pt : Int} (h0 : 0 ≤ pt) (h1 : pt < 4) : -36 ≤ net ps es fl pt ∧ net ps es fl pt ≤ 36 := by
  have l := (w.en pt h0 h1).1
  have := preSum_bd (fun (i : Nat) => netAt ps fl pt (nth (nthL es pt) i)) (nthL es pt).length (fun j _ => netAt_sm h _ _) _ (Nat.le_refl _)
  rw [preSum_sum] at this
  unfold net
  omega
theorem fn_net' {G : G0} (g : GN G) (k : Nat) {ps es fl} (w : Wf ps es) (h : Sm fl) (hl : fl.length = ps.length) {pt : Int} (h0 : 0 ≤ pt) (h1 : pt < 4) : Fn G 139 (k + 1) [pipesA ps, endsA es, intsA fl, .int pt] (.int (net ps es fl pt)) := by
  have e := w.en pt h0 h1
  have l0 := w.l0
  have bd := preSum_bd (fun (i : Nat) => netAt ps fl pt (nth (nthL es pt) i)) (nthL es pt).length (fun j _ => netAt_sm h _ _)
  refine fn_net g.toGK k h0 (by rw [w.le]; exact h1) (by rw [w.le]; decide) (by omega) (fun i hi => ⟨(e.2 i hi).1, (e.2 i hi).2, by rw [hl]; exact (e.2 i hi).2⟩) w.l0 (by omega) fun j hj => ?_
  have b1 := netAt_sm (ps := ps) h pt (nth (nthL es pt) j)
  have b2 := bd (j + 1) hj
  have := e.1
  unfold InLong
  omega
theorem Sm.set {fl : List Int} (h : Sm fl) (i : Nat) {x : Int} (h1 : -3 ≤ x) (h2 : x ≤ 3) : Sm (fl.set i x) := fun y hy => by
  rcases List.mem_or_eq_of_mem_set hy with q | q
  · exact h y q
  · rw [q]; exact ⟨h1, h2⟩
theorem qFl_sm {ps es fl} (h : Sm fl) (pt : Int) : Sm (qFl ps es fl pt) := h.set _ (by rw [Int.fmod_eq_emod_of_nonneg _ (by decide)]; omega) (by rw [Int.fmod_eq_emod_of_nonneg _ (by decide)]; omega)
theorem qSt_sm {ps es ch} (hc : Sm ch) : ∀ {i : Nat} {fl}, qSt ps es ch i = some fl → Sm fl
  | 0, fl, h => by
    cases h
    intro x hx
    rcases List.mem_append.mp hx with q | q
    · simp at q; omega
    · exact hc x q
  | i + 1, fl, h => by
    unfold qSt at h
    cases e : qSt ps es ch i with
    | none => rw [e] at h; cases h
    | some f =>
      rw [e] at h
      simp only at h
      split at h
      · cases h
      · cases h; exact qFl_sm (qSt_sm hc e) _
theorem fn_q {G : G0} (g : GN G) {ps es ch} (w : Wf ps es) (hc : Sm ch) (hl : ch.length + 3 = ps.length) : Fn G 146 9 [pipesA ps, endsA es, intsA ch] (.int (quarters ps es ch)) := by
  have l0 := w.l0
  refine Fn.mk g.toOk (sc := ?sc) (fd := fdAt G.w.params 146) (body := bodyAt G.w.params 146) ["pipes", "ends", "chosen"] ?hsc (g.get (by rfl : (fr.heap_1 G.w.params).lookup 146 = some (objAt G.w.params 146))) rfl
    ⟨145, _, _, _, rfl, g.get rfl, rfl, rfl⟩ rfl rfl rfl rfl ?hnd (by decide) rfl (bind_q _) ?hk ?main
  case hsc => conv => lhs; whnf
  case hnd => exact of_decide_eq_true (by rfl)
  case hk =>
    simp only [List.mem_cons, or_false, forall_eq_or_imp, forall_eq, List.not_mem_nil]
    exact ⟨.inl rfl, .inl rfl, .inl rfl⟩
  case main =>
  intro nd A s0 L rm W
  conv => arg 3; whnf
  refine Tri.asgL W (xs := ([0, 0, 0] ++ ch).map .int) (EvF.addL (xs := [.int 0, .int 0, .int 0]) (ys := ch.map .int) (EvE.list (.cons .int (.cons .int (.cons .int .nil)))) (nL W) rfl (map_all _) (by simp; omega)) (map_all _) (.inl rfl) fun a => ?_
  refine Tri.for W (n := 3) (bs := fun i => [(("point" : Str), AV.int (nth [3, 2, 1] (i : Nat)))]) (Tg := fun env own P' => Kd env own "point")
    (σs := fun i => [(("flow" : Str), .raw (.ref a)), (("pipes" : Str), pipesA ps), (("ends" : Str), endsA es), (("chosen" : Str), intsA ch)])
    (βs := fun i => [Item.list a (((qSt ps es ch i).getD []).map .int)]) (fun i => ∃ fl, qSt ps es ch i = some fl) ?_ (fun P' F => .inl rfl) rfl ?_ ⟨_, rfl⟩ ?_ (fun i _ => rfl) (fun ho => ?_)
  · refine EvG.nm (EvI.tuple (xs := [.int 3, .int 2, .int 1]) (EvE.tuple (.cons .int (.cons .int (.cons .int .nil)))) (by decide)) rfl (fun i => AV.int (nth [3, 2, 1] (i : Nat))) ?_
    intro i hi
    match i, hi with
    | 0, _ => rfl
    | 1, _ => rfl
    | 2, _ => rfl
  · simp only [List.mem_cons, or_false, forall_eq_or_imp, forall_eq, List.not_mem_nil]
    exact ⟨rfl, rfl, rfl, rfl⟩
  · intro i it hi ⟨fl, hfl⟩
    have hpt : 1 ≤ nth [3, 2, 1] (i : Nat) ∧ nth [3, 2, 1] (i : Nat) ≤ 3 := by
      match i, hi with
      | 0, _ => decide
      | 1, _ => decide
      | 2, _ => decide
    have hsu : qSt ps es ch (i + 1) = (if qBad ps es fl (nth [3, 2, 1] (i : Nat)) then none else some (qFl ps es fl (nth [3, 2, 1] (i : Nat)))) := by
      conv => lhs; unfold qSt
      rw [hfl]
    have hlen : fl.length = ps.length := by rw [qSt_len hfl]; omega
    have hsm : Sm fl := qSt_sm hc hfl
    have e1 : ((qSt ps es ch i).getD []) = fl := by rw [hfl]; rfl
    rw [e1]
    have l1 := w.l1
    generalize nth [3, 2, 1] (i : Nat) = pt at *
    have hflp : (qFl ps es fl pt).length = ps.length := by unfold qFl; rw [List.length_set, hlen]
    have hmap : (qFl ps es fl pt).map AV.int = (fl.map AV.int).set (pt - 1).toNat (.int ((qDue ps es fl pt).fmod 4)) := by unfold qFl; rw [List.map_set]
    have bd := net_bd w hsm (pt := pt) (by omega) (by omega)
    have hdue : -64 ≤ qDue ps es fl pt ∧ qDue ps es fl pt < 64 := by
      unfold qDue qSgn
      split <;> omega
    refine Tri.asgA W (r := .int (qDue ps es fl pt)) (EvE.bin (EvF.ev (EvF.call (f := 139) (rs := [pipesA ps, endsA es, intsA fl, .int pt]) (EvE.name (Has.global rfl (g.glob rfl))) (g.get (by rfl : (fr.heap_1 G.w.params).lookup 139 = some (objAt G.w.params 139))) (fd := fdAt G.w.params 139) rfl
      (.cons (nL W) (.cons (nL W) (.cons (EvE.name (Has.box W (Has.loc rfl rfl) (.tail _ (.head _)))) (.cons (nL W) .nil)))) (fn_net' g 7 w hsm hlen (by omega) (by omega)) rm))
      (EvE.ifI (x := (nthP ps (pt - 1)).1 == pt) (EvT.cmp (EvE.sub (EvE.sub (nL W) (EvE.bin (nL W) .int .sub) (OpR.itemL (by omega) (by omega) (pipesA_get (by omega) (by omega)))) .int (OpR.itemT (by decide) (by decide) rfl)) (nL W) .eqI) (fun _ => EvE.neg .int) (fun _ => .int)) (.mul (.of_right ?_))) rfl (.inl rfl) ?_
    · split <;> decide +kernel
    refine Tri.asgTS W (l := [it]) (r := []) (a := a) (xs := fl.map .int) (n := pt - 1) (r1 := .int ((qDue ps es fl pt).fdiv 4)) (r2 := .int ((qDue ps es fl pt).fmod 4)) (EvF.ev (EvF.call (f := 63) (rs := [.int (qDue ps es fl pt), .int 4]) (EvE.name (Has.global rfl (g.glob rfl))) (g.get (by rfl : (fr.heap_1 G.w.params).lookup 63 = some (objAt G.w.params 63))) (fd := fdAt G.w.params 63) rfl
      (.cons (nL W) (.cons .int .nil)) (fn_idm4 g hdue.1 hdue.2) rm)) rfl rfl (.inl rfl) nS (EvE.bin (nL W) .int .sub) (by omega) (by rw [List.length_map]; omega) (by rw [List.length_map]; omega) ?_
    rw [← hmap]
    have hget := intsA_get (l := qFl ps es fl pt) (i := pt - 1) (by omega) (by omega)
    refine Tri.if W (x := qBad ps es fl pt) (EvT.or (EvT.cmp (EvE.bin (EvE.bin (nL W) .int (.mul (.of_right ?_))) (EvE.sub (r1 := intsA (qFl ps es fl pt)) (r2 := .int (pt - 1)) ?_ ?_ (OpR.itemL (by omega) (by omega) hget)) .add) (nL W) .neI) (fun _ => EvT.or1 (EvT.not (EvT.chain .int (EvE.sub (r1 := intsA (qFl ps es fl pt)) (r2 := .int (pt - 1)) ?_ ?_ (OpR.itemL (by omega) (by omega) hget)) .int .ltI .ltI)))) (fun hx => ?_) (fun hx => ?_)
    · decide +kernel
    · exact EvE.name (Has.box W (Has.loc rfl rfl) (.tail _ (.head _)))
    · exact EvE.bin (nL W) .int .sub
    · exact EvE.name (Has.box W (Has.loc rfl rfl) (.tail _ (.head _)))
    · exact EvE.bin (nL W) .int .sub
    · refine Tri.ret W (r := .int 0) .int fun s v h y => ⟨v, rfl, h.toExt W, ?_⟩
      have : quarters ps es ch = 0 := by
        have h1 : qSt ps es ch (i + 1) = none := by rw [hsu, hx]; rfl
        have h3 := qSt_none (2 - i) h1
        have : i + 1 + (2 - i) = 3 := by omega
        rw [this] at h3
        unfold quarters
        rw [h3]
      rw [this]
      exact y.atom rfl
    · refine Tri.back (Tri.nil fun s h => ?_)
      have h1 : qSt ps es ch (i + 1) = some (qFl ps es fl pt) := by rw [hsu, hx]; rfl
      refine ⟨⟨_, h1⟩, ?_⟩
      rw [h1]
      refine FS.sub h ?_
      simp only [List.mem_cons, or_false, forall_eq_or_imp, forall_eq, List.not_mem_nil]
      exact ⟨rfl, rfl, rfl, rfl⟩
  · obtain ⟨fl, hfl⟩ := ho
    have hlen : fl.length = ps.length := by rw [qSt_len hfl]; omega
    have hsm : Sm fl := qSt_sm hc hfl
    have e1 : ((qSt ps es ch 3).getD []) = fl := by rw [hfl]; rfl
    rw [e1]
    have bd := net_bd w hsm (pt := 0) (by omega) (by omega)
    refine Tri.back (Tri.ret W (r := .int (quarters ps es ch)) ?_ fun s v h y => ⟨v, rfl, h.toExt W, y.atom rfl⟩)
    have hq : quarters ps es ch = if (net ps es fl 0).fmod 4 == 0 then 1 else 0 := by unfold quarters; rw [hfl]
    rw [hq]
    refine EvE.call (f := .type "int") (EvE.name (Has.builtin rfl (g.glob rfl) rfl)) .type (.cons (EvE.cmp (EvE.sub (r1 := .tup [.int ((net ps es fl 0).fdiv 4), .int ((net ps es fl 0).fmod 4)]) (EvF.ev (EvF.call (f := 63) (k := 8) (rs := [.int (net ps es fl 0), .int 4]) (EvE.name (Has.global rfl (g.glob rfl))) (g.get (by rfl : (fr.heap_1 G.w.params).lookup 63 = some (objAt G.w.params 63))) (fd := fdAt G.w.params 63) rfl (.cons (EvF.ev (EvF.call (f := 139) (rs := [pipesA ps, endsA es, intsA fl, .int 0]) (EvE.name (Has.global rfl (g.glob rfl))) (g.get (by rfl : (fr.heap_1 G.w.params).lookup 139 = some (objAt G.w.params 139))) (fd := fdAt G.w.params 139) rfl
      (.cons (nL W) (.cons (nL W) (.cons (EvE.name (Has.box W (Has.loc rfl rfl) (.head _))) (.cons .int .nil)))) (fn_net' g 7 w hsm hlen (by omega) (by omega)) rm)) (.cons .int .nil)) (fn_idm4 g (by omega) (by omega)) rm)) .int (OpR.itemT (by decide) (by decide) rfl)) .int .eqI) .nil) CaR.intB
theorem EvG.enum {c : Cx} {x : Str} {p pos tpos : Pos} {e : Expr} {ts : List Expr} {k1 n : Nat} {xs : List AV} {bs : Nat → List (Str × AV)} (hf : EvE c (.Name x p) (.raw (.type "enumerate"))) (h : EvE c e (.list xs)) (hl : xs.length = n) (hn : xs.length ≤ 1000000) (f : Nat → AV) (hx : ∀ i, i < n → xs[i]? = some (f i)) (he : starEach [e] c.env = [(false, eval e c.env)] := by rfl) :
    EvG c (.Call (.Name x p) [e] [] pos) (.Tuple ts k1 tpos) n bs (fun env own P' => ∀ i, i < n → AsRs env own P' ts [.int (i : Int), f i] (bs i)) := fun o s Q E hs k => by
  subst hl
  rw [arm_eval_Call_Name']
  refine wpAny_bind (hf o s hs _ _ fun v s1 x1 y1 => ?_)
  (first | ((first | replace y1 := VR.intI y1 | replace y1 := VR.strI y1); obtain ⟨_, rfl⟩ := y1) | ((first | replace y1 := VR.rawI y1 | replace y1 := VRs.nilI y1 | replace y1 := VR.boolI y1 | replace y1 := VR.noneI y1); subst y1) | cases y1)
  have hs1 := o.stab _ _ hs x1
  have ha : EvA c [e] [.list xs] := .cons h .nil he
  refine callW o hs1 .type ha fun vs s2 x2 y2 => ?_
  replace y2 := VRs.consI y2
  obtain ⟨_, _, rfl, yv, yn⟩ := y2
  ·
    (first | ((first | replace yn := VR.intI yn | replace yn := VR.strI yn); obtain ⟨_, rfl⟩ := yn) | ((first | replace yn := VR.rawI yn | replace yn := VRs.nilI yn | replace yn := VR.boolI yn | replace yn := VR.noneI yn); subst yn) | cases yn)
    replace yv := VR.listI yv
    obtain ⟨a, vs, rfl, pa, hl, hv⟩ := yv
    ·
      show wpAny _ _ (PySem.call (.type "enumerate") [.ref a]) _ _ _
      have hs2 := o.stab _ _ hs (x1.trans x2)
      refine call_enumerate_list hl fun h' hen hit hsz keep => ?_
      generalize hE : s2.heap.objs.size + 1 = I at *
      generalize hT : s2.heap.objs.size = t at *
      have nt : s2.heap.get? t = none := ge_none (by rw [hT]; exact Nat.le_refl _)
      have nI : s2.heap.get? I = none := ge_none (by rw [hT, ← hE]; exact Nat.le_succ _)
      have hIt : @Ne Nat I t := by omega
      obtain ⟨ol, eol, _⟩ := id hl
      have haI : a ≠ I := get_ne eol nI
      have hat : a ≠ t := get_ne eol nt
      have x3 : Ext c.G s2 { s2 with heap := h' } := Ext.of (tk := s2.toks) o.g keep
      have new : ∀ b ∈ [I, t], s2.heap.get? b = none := fun b hb => by
        rcases List.mem_cons.mp hb with rfl | hb
        · exact nI
        · rw [List.mem_singleton.mp hb]; exact nt
      have W := WalksT.enumerate (prog := c.G.prog) (w := c.G.w) (A := c.A) o.hd I t a hIt haI hat vs.toArray
      have e1 : vs.toArray.size = xs.length := by rw [List.size_toArray, hv.length]
      rw [e1] at W
      have eI : ∃ ob, h'.get? I = some ob := ⟨_, hen⟩
      have et : ∃ ob, h'.get? t = some ob := by obtain ⟨ob, e, _⟩ := hit; exact ⟨ob, e⟩
      refine wpAny_pyIter_enum hen ?_
      refine k I [I, t, a] [I, t] (fun i h => (∃ old, IsEnum h I t i old) ∧ h.IsListIter t a i ∧ h.IsList a vs.toArray) _ ⟨(x1.trans x2).trans x3, fun P fr tt => ?_, ⟨⟨_, hen⟩, hit, hl.at fun ob e => keep a ob e⟩, fun b hb => (x1.trans x2).none (new b hb), fun b hb => ?_, fun env own P' F tg h1 h2 h3 => ?_⟩
      · refine o.g.tok _ _ _ (o.g.tmono _ _ _ ((x1.trans x2).tabs P fr tt) fun b ob pb e => ⟨pb, fun q => ?_⟩) fun b ob _ e => keep b ob e
        rw [new b q] at e; cases e
      · rcases List.mem_cons.mp hb with rfl | hb
        · exact ⟨o.fresh s2 _ hs2 nI, eI⟩
        · rcases List.mem_cons.mp hb with rfl | hb
          · exact ⟨o.fresh s2 _ hs2 nt, et⟩
          · rw [List.mem_singleton.mp hb]; exact ⟨pa, _, keep a _ eol⟩
      · refine ⟨_, fun i t' x' hi hp => ?_, Turns.enum F W o.hd f bs ?_ tg ?_ (fun b hb pb => (h1 b pb).2 hb) h3⟩
        · obtain ⟨t2, x2', hx2, hq⟩ := hp
          have hq' : x' = x2' := by
            have := congrArg Array.toList hq
            simp at this
            exact this.2
          subst hq'
          obtain ⟨v', e', y⟩ := hv.get i (hx i hi)
          have hx2' : vs[i]? = some x' := by simpa using hx2
          rw [e'] at hx2'
          cases hx2'
          refine (y.up (fun b ob pb e => keep b ob e) fun b ob pb e => ?_)
          refine h2 b ob ⟨pb, fun q => ?_⟩ (keep b ob e)
          rw [new b q] at e; cases e
        · intro i h st b hb
          obtain ⟨⟨old, h4⟩, ⟨ob, h5, _⟩, _⟩ := st
          rcases List.mem_cons.mp hb with rfl | hb
          · exact ⟨_, h4⟩
          · rw [List.mem_singleton.mp hb]; exact ⟨ob, h5⟩
        · rintro i vals ⟨t', x', _, rfl⟩
          exact ⟨t', x', rfl⟩
section
variable {c : Cx} {a b : Int}
theorem OpR.ixor : OpR c (inplaceOp .BitXor) (.int a) (.int b) (.int (Builtin.bitXor a b)) := by
  intro o s v1 v2 hs y1 y2 Q E k; (first | ((first | replace y1 := VR.intI y1 | replace y1 := VR.strI y1); obtain ⟨_, rfl⟩ := y1) | ((first | replace y1 := VR.rawI y1 | replace y1 := VRs.nilI y1 | replace y1 := VR.boolI y1 | replace y1 := VR.noneI y1); subst y1) | cases y1); (first | ((first | replace y2 := VR.intI y2 | replace y2 := VR.strI y2); obtain ⟨_, rfl⟩ := y2) | ((first | replace y2 := VR.rawI y2 | replace y2 := VRs.nilI y2 | replace y2 := VR.boolI y2 | replace y2 := VR.noneI y2); subst y2) | cases y2); exact ixor_int (k _ _ .tok .int)
theorem OpR.iadd : OpR c (inplaceOp .Add) (.int a) (.int b) (.int (a + b)) := by
  intro o s v1 v2 hs y1 y2 Q E k; (first | ((first | replace y1 := VR.intI y1 | replace y1 := VR.strI y1); obtain ⟨_, rfl⟩ := y1) | ((first | replace y1 := VR.rawI y1 | replace y1 := VRs.nilI y1 | replace y1 := VR.boolI y1 | replace y1 := VR.noneI y1); subst y1) | cases y1); (first | ((first | replace y2 := VR.intI y2 | replace y2 := VR.strI y2); obtain ⟨_, rfl⟩ := y2) | ((first | replace y2 := VR.rawI y2 | replace y2 := VRs.nilI y2 | replace y2 := VR.boolI y2 | replace y2 := VR.noneI y2); subst y2) | cases y2); exact iadd_int (k _ _ .tok .int)
end
section
variable {fc : FC} {s0 : Shared} {σ : List (Str × AV)} {β : List Item} {Post : Flow → Shared → Prop} {rest : List Stmt}
theorem Tri.augL (W : fc.Ok) {l r : List Item} {o i e : Expr} {op : Operator} {tp pos : Pos} {a : Addr} {xs : List AV} {n : Int} {y1 y2 y : AV} (h1 : EvE (cs fc s0 σ (l ++ Item.list a xs :: r)) o (.raw (.ref a))) (h2 : EvE (cx fc s0 σ (l ++ Item.list a xs :: r)) i (.int n)) (h0 : 0 ≤ n) (hget : xs[n.toNat]? = some y1) (hb : xs.length ≤ 1000000)
    (h3 : EvE (cx fc s0 σ (l ++ Item.list a xs :: r)) e y2) (hop : OpR (cx fc s0 σ (l ++ Item.list a xs :: r)) (inplaceOp op) y1 y2 y) (a1 : y1.atom = true) (ha : y.atom = true)
    (k : Tri fc (FS fc s0 σ (l ++ Item.list a (xs.set n.toNat y) :: r)) rest Post) (hi : ∀ ov iv new, augStore i ov iv new = (do holding [new, ov, iv] (setItem ov iv new); release [new, ov, iv] []; pure .next) := by intros; rfl) :
    Tri fc (FS fc s0 σ (l ++ Item.list a xs :: r)) (.AugAssign (.Subscript o i tp) op e pos :: rest) Post := Tri.st fun E s hs => by
  have hn : n.toNat < xs.length := (List.getElem?_eq_some_iff.mp hget).1
  refine wpAny_AugAssign_SubscriptAny ?_ hi
  refine h1 (cs_ok W) s hs _ _ fun v1 s1 x1 z1 => ?_
  (first | ((first | replace z1 := VR.intI z1 | replace z1 := VR.strI z1); obtain ⟨_, rfl⟩ := z1) | ((first | replace z1 := VR.rawI z1 | replace z1 := VRs.nilI z1 | replace z1 := VR.boolI z1 | replace z1 := VR.noneI z1); subst z1) | cases z1)
  have hs1 := FS.ext W hs x1
  refine h2 (cx_ok W) s1 hs1 _ _ fun v2 s2 x2 z2 => ?_
  (first | ((first | replace z2 := VR.intI z2 | replace z2 := VR.strI z2); obtain ⟨_, rfl⟩ := z2) | ((first | replace z2 := VR.rawI z2 | replace z2 := VRs.nilI z2 | replace z2 := VR.boolI z2 | replace z2 := VR.noneI z2); subst z2) | cases z2)
  have hs2 := FS.ext W hs1 x2
  obtain ⟨vs, hl, hv⟩ := hs2.box (Item.list a xs) (List.mem_append_right _ (.head _))
  obtain ⟨vo, eo, yo⟩ := hv.get _ hget
  refine wpAny_getItem_list hl h0 (by omega) (by simpa using eo) ?_
  refine h3 (cx_ok W) s2 hs2 _ _ fun v3 s3 x3 z3 => ?_
  have hs3 := FS.ext W hs2 x3
  refine hop (cx_ok W) s3 vo v3 hs3 (yo.atom a1 x3.le) z3 _ _ fun v4 s4 x4 z4 => ?_
  have hs4 := FS.ext W hs3 x4
  obtain ⟨ws, hl4, hw⟩ := hs4.box (Item.list a xs) (List.mem_append_right _ (.head _))
  have hlen := hw.length
  refine wpAny_setItem_list hl4 h0 (by omega) (by rw [List.size_toArray]; omega) fun h' hl' hsb => ?_
  intro E'
  refine k E' _ (hs4.set W (j := Item.list a (xs.set n.toNat y)) rfl ⟨h', _, rfl⟩ (fun b ob hb e => hsb.extBut b ob (fun q => hb (List.mem_singleton.mpr q)) e) ?_)
  refine ⟨ws.set n.toNat v4, by simpa using hl', (hw.set n.toNat (z4.atom ha)).mono (fun b ob pb e => hsb.extBut b ob (fun q => pb.2 (mem_MUs.mpr (.inr ⟨_, List.mem_append_right _ (.head _), List.mem_singleton.mpr q⟩))) e) fun _ p => p⟩
end
noncomputable def pxIf (ps : List (Int × Int)) (pt : Int) (k : Nat) : Bool := (((nthP ps (k : Nat)).1 == pt) != ((nthP ps (k : Nat)).2 == pt)) && ((k : Int) != pt - 1)
noncomputable def pxIn (ps : List (Int × Int)) (pt : Int) (fl : List Int) : Nat → List Int
  | 0 => fl
  | k + 1 => if pxIf ps pt k then (pxIn ps pt fl k).set (pt - 1).toNat (Builtin.bitXor (nth (pxIn ps pt fl k) (pt - 1)) (nth (pxIn ps pt fl k) (k : Nat))) else pxIn ps pt fl k
noncomputable def plSt (ps : List (Int × Int)) (ch : List Int) : Nat → Option (List Int)
  | 0 => some ([0, 0, 0] ++ ch)
  | i + 1 => match plSt ps ch i with
    | none => none
    | some fl => if nth (pxIn ps (nth [3, 2, 1] (i : Nat)) fl ps.length) (nth [3, 2, 1] (i : Nat) - 1) == 0 then none else some (pxIn ps (nth [3, 2, 1] (i : Nat)) fl ps.length)
noncomputable def plain (ps : List (Int × Int)) (ch : List Int) : Int := match plSt ps ch 3 with
  | none => 0
  | some _ => 1
theorem pxIn_len {ps pt fl} : ∀ k, (pxIn ps pt fl k).length = fl.length
  | 0 => rfl
  | k + 1 => by
    unfold pxIn
    split
    · rw [List.length_set, pxIn_len k]
    · exact pxIn_len k
theorem plSt_none {ps ch} : ∀ {i : Nat} (k : Nat), plSt ps ch i = none → plSt ps ch (i + k) = none
  | i, 0, h => h
  | i, k + 1, h => by rw [Nat.add_succ]; unfold plSt; rw [plSt_none k h]
theorem plSt_len {ps ch} : ∀ {i : Nat} {fl}, plSt ps ch i = some fl → fl.length = 3 + ch.length
  | 0, fl, h => by cases h; simp; omega
  | i + 1, fl, h => by
    unfold plSt at h
    cases e : plSt ps ch i with
    | none => rw [e] at h; cases h
    | some f =>
      rw [e] at h
      have := plSt_len e
      simp only at h
      split at h
      · cases h
      · cases h; rw [pxIn_len, this]
theorem bind_pl (P : Params) : ∀ vs : List Value, vs.length = 2 → bindArgs (fdAt P 165) ⟨vs, []⟩ = pure ((["pipes", "chosen"] : List Str).zip vs) := by
  intro vs h
  match vs, h with
  | [a, b], _ => kernel_rfl
theorem fn_pl {G : G0} (g : GN G) {ps : List (Int × Int)} {ch : List Int} (l0 : ps.length ≤ 100) (l1 : 3 ≤ ps.length) (hl : ch.length + 3 = ps.length) : Fn G 165 9 [pipesA ps, intsA ch] (.int (plain ps ch)) := by
  refine Fn.mk g.toOk (sc := ?sc) (fd := fdAt G.w.params 165) (body := bodyAt G.w.params 165) ["pipes", "chosen"] ?hsc (g.get (by rfl : (fr.heap_1 G.w.params).lookup 165 = some (objAt G.w.params 165))) rfl
    ⟨164, _, _, _, rfl, g.get rfl, rfl, rfl⟩ rfl rfl rfl rfl ?hnd (by decide) rfl (bind_pl _) ?hk ?main
  case hsc => conv => lhs; whnf
  case hnd => exact of_decide_eq_true (by rfl)
  case hk =>
    simp only [List.mem_cons, or_false, forall_eq_or_imp, forall_eq, List.not_mem_nil]
    exact ⟨.inl rfl, .inl rfl⟩
  case main =>
  intro nd A s0 L rm W
  conv => arg 3; whnf
  refine Tri.asgL W (xs := ([0, 0, 0] ++ ch).map .int) (EvF.addL (xs := [.int 0, .int 0, .int 0]) (ys := ch.map .int) (EvE.list (.cons .int (.cons .int (.cons .int .nil)))) (nL W) rfl (map_all _) (by simp; omega)) (map_all _) (.inl rfl) fun a => ?_
  refine Tri.for W (n := 3) (bs := fun i => [(("point" : Str), AV.int (nth [3, 2, 1] (i : Nat)))]) (Tg := fun env own P' => Kd env own "point")
    (σs := fun i => [(("flow" : Str), .raw (.ref a)), (("pipes" : Str), pipesA ps), (("chosen" : Str), intsA ch)])
    (βs := fun i => [Item.list a (((plSt ps ch i).getD []).map .int)]) (fun i => ∃ fl, plSt ps ch i = some fl) ?_ (fun P' F => .inl rfl) rfl ?_ ⟨_, rfl⟩ ?_ (fun i _ => rfl) (fun ho => ?_)
  · refine EvG.nm (EvI.tuple (xs := [.int 3, .int 2, .int 1]) (EvE.tuple (.cons .int (.cons .int (.cons .int .nil)))) (by decide)) rfl (fun i => AV.int (nth [3, 2, 1] (i : Nat))) ?_
    intro i hi
    match i, hi with
    | 0, _ => rfl
    | 1, _ => rfl
    | 2, _ => rfl
  · simp only [List.mem_cons, or_false, forall_eq_or_imp, forall_eq, List.not_mem_nil]
    exact ⟨rfl, rfl, rfl⟩
  · intro i it hi ⟨fl, hfl⟩
    have hpt : 1 ≤ nth [3, 2, 1] (i : Nat) ∧ nth [3, 2, 1] (i : Nat) ≤ 3 := by
      match i, hi with
      | 0, _ => decide
      | 1, _ => decide
      | 2, _ => decide
    have hsu : plSt ps ch (i + 1) = (if nth (pxIn ps (nth [3, 2, 1] (i : Nat)) fl ps.length) (nth [3, 2, 1] (i : Nat) - 1) == 0 then none else some (pxIn ps (nth [3, 2, 1] (i : Nat)) fl ps.length)) := by
      conv => lhs; unfold plSt
      rw [hfl]
    have hlen : fl.length = ps.length := by rw [plSt_len hfl]; omega
    have e1 : ((plSt ps ch i).getD []) = fl := by rw [hfl]; rfl
    rw [e1]
    generalize nth [3, 2, 1] (i : Nat) = pt at *
    refine Tri.for W (n := ps.length) (bs := fun j => [(("b" : Str), AV.int (nthP ps (j : Nat)).2), (("a" : Str), AV.int (nthP ps (j : Nat)).1), (("k" : Str), AV.int (j : Nat))])
      (σs := fun j => [(("point" : Str), .int pt), (("flow" : Str), .raw (.ref a)), (("pipes" : Str), pipesA ps), (("chosen" : Str), intsA ch)])
      (βs := fun j => [it, Item.list a ((pxIn ps pt fl j).map .int)]) (fun _ => True) (EvG.enum ?_ ?_ (xs := ps.map fun p => .tup [.int p.1, .int p.2]) (by rw [List.length_map]) (by rw [List.length_map]; omega) (fun j => .tup [.int (nthP ps (j : Nat)).1, .int (nthP ps (j : Nat)).2]) ?_) (fun P' F j hj => ?_) rfl ?_ trivial ?_ (fun i _ => rfl) (fun ho => ?_)
    · exact EvE.name (Has.builtin rfl (g.glob rfl) rfl)
    · exact nS
    · intro j hj
      have := pipesA_get (l := ps) (i := (j : Int)) (by omega) (by omega)
      simpa using this
    · exact AsRs.cons F (AsR.name F (.inl rfl)) (AsRs.cons F (AsR.tuple F (AsRs.two F (.inl rfl) (.inl rfl))) .nil)
    · simp only [List.mem_cons, or_false, forall_eq_or_imp, forall_eq, List.not_mem_nil]
      exact ⟨rfl, rfl, rfl, rfl⟩
    · intro j it1 hj _
      have hlx := pxIn_len (ps := ps) (pt := pt) (fl := fl) j
      refine Tri.if W (x := pxIf ps pt j) (EvT.and (EvT.cmp (EvE.cmp (nL W) (nL W) .eqI) (EvE.cmp (nL W) (nL W) .eqI) .neB) (fun _ => EvT.and1 (EvT.cmp (nL W) (EvE.bin (nL W) .int .sub) .neI))) (fun hx => ?_) (fun hx => ?_)
      · have hset : (pxIn ps pt fl (j + 1)).map AV.int = ((pxIn ps pt fl j).map AV.int).set (pt - 1).toNat (.int (Builtin.bitXor (nth (pxIn ps pt fl j) (pt - 1)) (nth (pxIn ps pt fl j) (j : Nat)))) := by
          conv => lhs; unfold pxIn
          rw [if_pos hx, List.map_set]
        refine Tri.augL W (l := [it1, it]) (r := []) (a := a) (xs := (pxIn ps pt fl j).map .int) (n := pt - 1) nS (EvE.bin (nL W) .int .sub) (by omega) (intsA_get (l := pxIn ps pt fl j) (i := pt - 1) (by omega) (by omega)) (by rw [List.length_map]; omega)
          (EvE.sub (r1 := intsA (pxIn ps pt fl j)) (r2 := .int (j : Nat)) ?_ ?_ (OpR.itemL (by omega) (by omega) (intsA_get (by omega) (by omega)))) .ixor rfl rfl (Tri.back (Tri.nil fun s h => ⟨trivial, ?_⟩))
        · exact EvE.name (Has.box W (Has.loc rfl rfl) (.tail _ (.tail _ (.head _))))
        · exact nL W
        · rw [hset]
          refine FS.sub h ?_
          simp only [List.mem_cons, or_false, forall_eq_or_imp, forall_eq, List.not_mem_nil]
          exact ⟨rfl, rfl, rfl, rfl⟩
      · refine Tri.back (Tri.nil fun s h => ⟨trivial, ?_⟩)
        have he : pxIn ps pt fl (j + 1) = pxIn ps pt fl j := by
          conv => lhs; unfold pxIn
          rw [if_neg (by rw [hx]; decide)]
        rw [he]
        refine FS.sub h ?_
        simp only [List.mem_cons, or_false, forall_eq_or_imp, forall_eq, List.not_mem_nil]
        exact ⟨rfl, rfl, rfl, rfl⟩
    · have hlx := pxIn_len (ps := ps) (pt := pt) (fl := fl) ps.length
      refine Tri.back ?_
      refine Tri.if W (x := (nth (pxIn ps pt fl ps.length) (pt - 1) == 0)) (EvT.cmp (EvE.sub (r1 := intsA (pxIn ps pt fl ps.length)) (r2 := .int (pt - 1)) ?_ ?_ (OpR.itemL (by omega) (by omega) (intsA_get (by omega) (by omega)))) .int .eqI) (fun hx => ?_) (fun hx => ?_)
      · exact EvE.name (Has.box W (Has.loc rfl rfl) (.tail _ (.head _)))
      · exact EvE.bin (nL W) .int .sub
      · refine Tri.ret W (r := .int 0) .int fun s v h y => ⟨v, rfl, h.toExt W, ?_⟩
        have : plain ps ch = 0 := by
          have h1 : plSt ps ch (i + 1) = none := by rw [hsu, hx]; rfl
          have h3 := plSt_none (2 - i) h1
          have : i + 1 + (2 - i) = 3 := by omega
          rw [this] at h3
          unfold plain
          rw [h3]
        rw [this]
        exact y.atom rfl
      · refine Tri.back (Tri.nil fun s h => ?_)
        have h1 : plSt ps ch (i + 1) = some (pxIn ps pt fl ps.length) := by rw [hsu, hx]; rfl
        refine ⟨⟨_, h1⟩, ?_⟩
        rw [h1]
        refine FS.sub h ?_
        simp only [List.mem_cons, or_false, forall_eq_or_imp, forall_eq, List.not_mem_nil]
        exact ⟨rfl, rfl, rfl⟩
  · obtain ⟨fl, hfl⟩ := ho
    refine Tri.back (Tri.ret W (r := .int 1) .int fun s v h y => ⟨v, rfl, h.toExt W, ?_⟩)
    have hq : plain ps ch = 1 := by unfold plain; rw [hfl]
    rw [hq]
    exact y.atom rfl
section
variable {c : Cx} {a b : UInt64} {n m : Int}
theorem EvE.flt {x k pos} : EvE c (.Constant (.float x) k pos) (.flt x) := fun o s hs _ _ k => by
  rw [eval_Constant]; exact wpAny_mkFloat (k _ _ .tok (.flt (o.glob s hs).pos (Nat.lt_succ_self _)))
theorem OpR.addF : OpR c (binaryOp .Add) (.flt a) (.flt b) (.flt (Float64.add a b)) := by
  intro o s v1 v2 hs y1 y2 Q E k; (first | ((first | replace y1 := VR.intI y1 | replace y1 := VR.strI y1); obtain ⟨_, rfl⟩ := y1) | ((first | replace y1 := VR.rawI y1 | replace y1 := VRs.nilI y1 | replace y1 := VR.boolI y1 | replace y1 := VR.noneI y1); subst y1) | cases y1); (first | ((first | replace y2 := VR.intI y2 | replace y2 := VR.strI y2); obtain ⟨_, rfl⟩ := y2) | ((first | replace y2 := VR.rawI y2 | replace y2 := VRs.nilI y2 | replace y2 := VR.boolI y2 | replace y2 := VR.noneI y2); subst y2) | cases y2); exact add_float (k _ _ .tok (.flt (o.glob s hs).pos (Nat.lt_succ_self _)))
theorem OpR.subF : OpR c (binaryOp .Sub) (.flt a) (.flt b) (.flt (Float64.sub a b)) := by
  intro o s v1 v2 hs y1 y2 Q E k; (first | ((first | replace y1 := VR.intI y1 | replace y1 := VR.strI y1); obtain ⟨_, rfl⟩ := y1) | ((first | replace y1 := VR.rawI y1 | replace y1 := VRs.nilI y1 | replace y1 := VR.boolI y1 | replace y1 := VR.noneI y1); subst y1) | cases y1); (first | ((first | replace y2 := VR.intI y2 | replace y2 := VR.strI y2); obtain ⟨_, rfl⟩ := y2) | ((first | replace y2 := VR.rawI y2 | replace y2 := VRs.nilI y2 | replace y2 := VR.boolI y2 | replace y2 := VR.noneI y2); subst y2) | cases y2); exact sub_float (k _ _ .tok (.flt (o.glob s hs).pos (Nat.lt_succ_self _)))
theorem OpR.divF (h : Float64.isZero b = false) : OpR c (binaryOp .Div) (.flt a) (.flt b) (.flt (Float64.div a b)) := by
  intro o s v1 v2 hs y1 y2 Q E k; (first | ((first | replace y1 := VR.intI y1 | replace y1 := VR.strI y1); obtain ⟨_, rfl⟩ := y1) | ((first | replace y1 := VR.rawI y1 | replace y1 := VRs.nilI y1 | replace y1 := VR.boolI y1 | replace y1 := VR.noneI y1); subst y1) | cases y1); (first | ((first | replace y2 := VR.intI y2 | replace y2 := VR.strI y2); obtain ⟨_, rfl⟩ := y2) | ((first | replace y2 := VR.rawI y2 | replace y2 := VRs.nilI y2 | replace y2 := VR.boolI y2 | replace y2 := VR.noneI y2); subst y2) | cases y2); exact AutoFloatOps.truediv_1 (by rw [h]; decide) (k _ _ .tok (.flt (o.glob s hs).pos (Nat.lt_succ_self _)))
theorem OpR.modF (h : Float64.isZero b = false) : OpR c (binaryOp .Mod) (.flt a) (.flt b) (.flt (Float64.divmod a b).snd) := by
  intro o s v1 v2 hs y1 y2 Q E k; (first | ((first | replace y1 := VR.intI y1 | replace y1 := VR.strI y1); obtain ⟨_, rfl⟩ := y1) | ((first | replace y1 := VR.rawI y1 | replace y1 := VRs.nilI y1 | replace y1 := VR.boolI y1 | replace y1 := VR.noneI y1); subst y1) | cases y1); (first | ((first | replace y2 := VR.intI y2 | replace y2 := VR.strI y2); obtain ⟨_, rfl⟩ := y2) | ((first | replace y2 := VR.rawI y2 | replace y2 := VRs.nilI y2 | replace y2 := VR.boolI y2 | replace y2 := VR.noneI y2); subst y2) | cases y2); exact AutoFloatOps.mod_1 (by rw [h]; decide) (k _ _ .tok (.flt (o.glob s hs).pos (Nat.lt_succ_self _)))
theorem OpR.mulFI (h : n.natAbs < 2 ^ 1023) : OpR c (binaryOp .Mult) (.flt a) (.int n) (.flt (Float64.mul a (Float64.ofInt n))) := by
  intro o s v1 v2 hs y1 y2 Q E k; (first | ((first | replace y1 := VR.intI y1 | replace y1 := VR.strI y1); obtain ⟨_, rfl⟩ := y1) | ((first | replace y1 := VR.rawI y1 | replace y1 := VRs.nilI y1 | replace y1 := VR.boolI y1 | replace y1 := VR.noneI y1); subst y1) | cases y1); (first | ((first | replace y2 := VR.intI y2 | replace y2 := VR.strI y2); obtain ⟨_, rfl⟩ := y2) | ((first | replace y2 := VR.rawI y2 | replace y2 := VRs.nilI y2 | replace y2 := VR.boolI y2 | replace y2 := VR.noneI y2); subst y2) | cases y2); exact mul_fi_fits h (k _ _ .tok (.flt (o.glob s hs).pos (Nat.lt_succ_self _)))
noncomputable def fracI (n m : Int) : UInt64 := Float64.ofFrac (decide (n < 0) != decide (m < 0)) n.natAbs m.natAbs
theorem OpR.divI (h : m ≠ 0) (h2 : Float64.isInf (fracI n m) = false) : OpR c (binaryOp .Div) (.int n) (.int m) (.flt (fracI n m)) := by
  intro o s v1 v2 hs y1 y2 Q E k; (first | ((first | replace y1 := VR.intI y1 | replace y1 := VR.strI y1); obtain ⟨_, rfl⟩ := y1) | ((first | replace y1 := VR.rawI y1 | replace y1 := VRs.nilI y1 | replace y1 := VR.boolI y1 | replace y1 := VR.noneI y1); subst y1) | cases y1); (first | ((first | replace y2 := VR.intI y2 | replace y2 := VR.strI y2); obtain ⟨_, rfl⟩ := y2) | ((first | replace y2 := VR.rawI y2 | replace y2 := VRs.nilI y2 | replace y2 := VR.boolI y2 | replace y2 := VR.noneI y2); subst y2) | cases y2); exact AutoIntOps.truediv_2 (by simpa using h) (by show ¬ Float64.isInf (fracI n m) = true; rw [h2]; decide) (k _ _ .tok (.flt (o.glob s hs).pos (Nat.lt_succ_self _)))
theorem CmR.eqF : CmR c .Eq (.flt a) (.flt b) (Float64.cmp a b == some .eq) := by intro o s v1 v2 hs y1 y2 Q E k; (first | ((first | replace y1 := VR.intI y1 | replace y1 := VR.strI y1); obtain ⟨_, rfl⟩ := y1) | ((first | replace y1 := VR.rawI y1 | replace y1 := VRs.nilI y1 | replace y1 := VR.boolI y1 | replace y1 := VR.noneI y1); subst y1) | cases y1); (first | ((first | replace y2 := VR.intI y2 | replace y2 := VR.strI y2); obtain ⟨_, rfl⟩ := y2) | ((first | replace y2 := VR.rawI y2 | replace y2 := VRs.nilI y2 | replace y2 := VR.boolI y2 | replace y2 := VR.noneI y2); subst y2) | cases y2); exact AutoFloatOps.eq_0 (k _ (.refl s))
theorem CmR.leF : CmR c .LtE (.flt a) (.flt b) (Float64.cmp a b == some .lt || Float64.cmp a b == some .eq) := by intro o s v1 v2 hs y1 y2 Q E k; (first | ((first | replace y1 := VR.intI y1 | replace y1 := VR.strI y1); obtain ⟨_, rfl⟩ := y1) | ((first | replace y1 := VR.rawI y1 | replace y1 := VRs.nilI y1 | replace y1 := VR.boolI y1 | replace y1 := VR.noneI y1); subst y1) | cases y1); (first | ((first | replace y2 := VR.intI y2 | replace y2 := VR.strI y2); obtain ⟨_, rfl⟩ := y2) | ((first | replace y2 := VR.rawI y2 | replace y2 := VRs.nilI y2 | replace y2 := VR.boolI y2 | replace y2 := VR.noneI y2); subst y2) | cases y2); exact AutoFloatOps.le_0 (k _ (.refl s))
theorem CmR.eqFI : CmR c .Eq (.flt a) (.int n) (Float64.cmpInt a n == some .eq) := by intro o s v1 v2 hs y1 y2 Q E k; (first | ((first | replace y1 := VR.intI y1 | replace y1 := VR.strI y1); obtain ⟨_, rfl⟩ := y1) | ((first | replace y1 := VR.rawI y1 | replace y1 := VRs.nilI y1 | replace y1 := VR.boolI y1 | replace y1 := VR.noneI y1); subst y1) | cases y1); (first | ((first | replace y2 := VR.intI y2 | replace y2 := VR.strI y2); obtain ⟨_, rfl⟩ := y2) | ((first | replace y2 := VR.rawI y2 | replace y2 := VRs.nilI y2 | replace y2 := VR.boolI y2 | replace y2 := VR.noneI y2); subst y2) | cases y2); exact eq_fi (k _ (.refl s))
end
noncomputable def f3 (r g b : UInt64) : Nat → UInt64
  | 0 => r
  | 1 => g
  | _ => b
noncomputable def mx3 (r g b : UInt64) : UInt64 := f3 r g b (argBest (fun i j => Float64.cmp (f3 r g b i) (f3 r g b j) == some .gt) 2)
noncomputable def mn3 (r g b : UInt64) : UInt64 := f3 r g b (argBest (fun i j => Float64.cmp (f3 r g b i) (f3 r g b j) == some .lt) 2)
theorem items3 {r g b : UInt64} {t u v : Tok} {i : Nat} {x : Value} (h : (#[Value.float r t, .float g u, .float b v] : Array Value)[i]? = some x) : ∃ w, x = .float (f3 r g b i) w ∧ (w = t ∨ w = u ∨ w = v) := by
  match i, h with
  | 0, h => simp at h; exact ⟨t, h.symm, .inl rfl⟩
  | 1, h => simp at h; exact ⟨u, h.symm, .inr (.inl rfl)⟩
  | 2, h => simp at h; exact ⟨v, h.symm, .inr (.inr rfl)⟩
  | k + 3, h => simp at h
theorem CaR.max3 {c : Cx} {r g b : UInt64} : CaR c (.builtin "max") [.flt r, .flt g, .flt b] (.flt (mx3 r g b)) := by
  intro o s vs hs y Q E k
  replace y := VRs.consI y
  obtain ⟨_, _, rfl, y1, y⟩ := y
  · replace y := VRs.consI y
    obtain ⟨_, _, rfl, y2, y⟩ := y
    · cases y with
      | cons y3 y =>
        (first | ((first | replace y := VR.intI y | replace y := VR.strI y); obtain ⟨_, rfl⟩ := y) | ((first | replace y := VR.rawI y | replace y := VRs.nilI y | replace y := VR.boolI y | replace y := VR.noneI y); subst y) | cases y); (first | ((first | replace y1 := VR.intI y1 | replace y1 := VR.strI y1); obtain ⟨_, rfl⟩ := y1) | ((first | replace y1 := VR.rawI y1 | replace y1 := VRs.nilI y1 | replace y1 := VR.boolI y1 | replace y1 := VR.noneI y1); subst y1) | cases y1); (first | ((first | replace y2 := VR.intI y2 | replace y2 := VR.strI y2); obtain ⟨_, rfl⟩ := y2) | ((first | replace y2 := VR.rawI y2 | replace y2 := VRs.nilI y2 | replace y2 := VR.boolI y2 | replace y2 := VR.noneI y2); subst y2) | cases y2); (first | ((first | replace y3 := VR.intI y3 | replace y3 := VR.strI y3); obtain ⟨_, rfl⟩ := y3) | ((first | replace y3 := VR.rawI y3 | replace y3 := VRs.nilI y3 | replace y3 := VR.boolI y3 | replace y3 := VR.noneI y3); subst y3) | cases y3)
        rename_i t p1 q1 u p2 q2 v p3 q3
        refine wpAny_mono (wpAny_with_toks (Nat.le_refl s.toks) (call_max_three (Q := fun v s' => s.toks ≤ s'.toks → Q v s') ?_)) (fun _ _ h => h) fun _ _ h => h
        have ht : (s.heap.push { cls := .type "tuple", data := .seq #[.float r t, .float g u, .float b v] }).IsTuple s.heap.objs.size #[.float r t, .float g u, .float b v] := ⟨_, Heap.get?_push_size _ rfl, rfl, _, rfl⟩
        refine wpAny_pyIter_tuple ht ?_
        have hI := size_none (s.heap.push { cls := .type "tuple", data := .seq #[.float r t, .float g u, .float b v] })
        have hne : s.heap.objs.size ≠ (s.heap.push { cls := .type "tuple", data := .seq #[.float r t, .float g u, .float b v] }).objs.size := get_ne (Heap.get?_push_size _ rfl) hI
        have W := Walks.tuple (prog := c.G.prog) (w := c.G.w) (A := c.A.in1) o.hd _ s.heap.objs.size hne #[.float r t, .float g u, .float b v]
        refine ⟨_, _, _, 3, _, _, fun i j => Float64.cmp (f3 r g b i) (f3 r g b j) == some .gt, rfl, W, ⟨⟨_, Heap.get?_push_size _ rfl, rfl, rfl⟩, ⟨_, Heap.get?_push_of_some _ (Heap.get?_push_size _ rfl), rfl, _, rfl⟩⟩, fun b' hb => ?_, by decide, ?_, fun x h' tk hx hk hle => ?_⟩
        · rcases List.mem_cons.mp hb with rfl | hb
          · exact Heap.lt_size (Heap.get?_push_size _ rfl)
          · rw [List.mem_singleton.mp hb]; exact Heap.lt_size (Heap.get?_push_of_some _ (Heap.get?_push_size _ rfl))
        · intro i j vi vj s' Q' E' hi hj hQ
          obtain ⟨_, rfl, _⟩ := items3 hi
          obtain ⟨_, rfl, _⟩ := items3 hj
          exact AutoFloatOps.gt_0 hQ
        · obtain ⟨w, rfl, hw⟩ := items3 hx
          have hle' : s.toks ≤ tk := hle
          refine k _ _ (Ext.of (tk := tk) o.g fun b' ob e => hk b' ob (fun q => get_ne (Heap.get?_push_of_some _ e) hI (List.mem_singleton.mp q)) (Heap.get?_push_of_some _ (Heap.get?_push_of_some _ e))) (.flt (by rcases hw with rfl | rfl | rfl <;> assumption) (Nat.lt_of_lt_of_le (by rcases hw with rfl | rfl | rfl <;> assumption) hle'))
theorem CaR.min3 {c : Cx} {r g b : UInt64} : CaR c (.builtin "min") [.flt r, .flt g, .flt b] (.flt (mn3 r g b)) := by
  intro o s vs hs y Q E k
  replace y := VRs.consI y
  obtain ⟨_, _, rfl, y1, y⟩ := y
  · replace y := VRs.consI y
    obtain ⟨_, _, rfl, y2, y⟩ := y
    · cases y with
      | cons y3 y =>
        (first | ((first | replace y := VR.intI y | replace y := VR.strI y); obtain ⟨_, rfl⟩ := y) | ((first | replace y := VR.rawI y | replace y := VRs.nilI y | replace y := VR.boolI y | replace y := VR.noneI y); subst y) | cases y); (first | ((first | replace y1 := VR.intI y1 | replace y1 := VR.strI y1); obtain ⟨_, rfl⟩ := y1) | ((first | replace y1 := VR.rawI y1 | replace y1 := VRs.nilI y1 | replace y1 := VR.boolI y1 | replace y1 := VR.noneI y1); subst y1) | cases y1); (first | ((first | replace y2 := VR.intI y2 | replace y2 := VR.strI y2); obtain ⟨_, rfl⟩ := y2) | ((first | replace y2 := VR.rawI y2 | replace y2 := VRs.nilI y2 | replace y2 := VR.boolI y2 | replace y2 := VR.noneI y2); subst y2) | cases y2); (first | ((first | replace y3 := VR.intI y3 | replace y3 := VR.strI y3); obtain ⟨_, rfl⟩ := y3) | ((first | replace y3 := VR.rawI y3 | replace y3 := VRs.nilI y3 | replace y3 := VR.boolI y3 | replace y3 := VR.noneI y3); subst y3) | cases y3)
        rename_i t p1 q1 u p2 q2 v p3 q3
        refine wpAny_mono (wpAny_with_toks (Nat.le_refl s.toks) (call_min_three (Q := fun v s' => s.toks ≤ s'.toks → Q v s') ?_)) (fun _ _ h => h) fun _ _ h => h
        have ht : (s.heap.push { cls := .type "tuple", data := .seq #[.float r t, .float g u, .float b v] }).IsTuple s.heap.objs.size #[.float r t, .float g u, .float b v] := ⟨_, Heap.get?_push_size _ rfl, rfl, _, rfl⟩
        refine wpAny_pyIter_tuple ht ?_
        have hI := size_none (s.heap.push { cls := .type "tuple", data := .seq #[.float r t, .float g u, .float b v] })
        have hne : s.heap.objs.size ≠ (s.heap.push { cls := .type "tuple", data := .seq #[.float r t, .float g u, .float b v] }).objs.size := get_ne (Heap.get?_push_size _ rfl) hI
        have W := Walks.tuple (prog := c.G.prog) (w := c.G.w) (A := c.A.in1) o.hd _ s.heap.objs.size hne #[.float r t, .float g u, .float b v]
        refine ⟨_, _, _, 3, _, _, fun i j => Float64.cmp (f3 r g b i) (f3 r g b j) == some .lt, rfl, W, ⟨⟨_, Heap.get?_push_size _ rfl, rfl, rfl⟩, ⟨_, Heap.get?_push_of_some _ (Heap.get?_push_size _ rfl), rfl, _, rfl⟩⟩, fun b' hb => ?_, by decide, ?_, fun x h' tk hx hk hle => ?_⟩
        · rcases List.mem_cons.mp hb with rfl | hb
          · exact Heap.lt_size (Heap.get?_push_size _ rfl)
          · rw [List.mem_singleton.mp hb]; exact Heap.lt_size (Heap.get?_push_of_some _ (Heap.get?_push_size _ rfl))
        · intro i j vi vj s' Q' E' hi hj hQ
          obtain ⟨_, rfl, _⟩ := items3 hi
          obtain ⟨_, rfl, _⟩ := items3 hj
          exact AutoFloatOps.lt_0 hQ
        · obtain ⟨w, rfl, hw⟩ := items3 hx
          have hle' : s.toks ≤ tk := hle
          refine k _ _ (Ext.of (tk := tk) o.g fun b' ob e => hk b' ob (fun q => get_ne (Heap.get?_push_of_some _ e) hI (List.mem_singleton.mp q)) (Heap.get?_push_of_some _ (Heap.get?_push_of_some _ e))) (.flt (by rcases hw with rfl | rfl | rfl <;> assumption) (Nat.lt_of_lt_of_le (by rcases hw with rfl | rfl | rfl <;> assumption) hle'))
noncomputable def feq (a b : UInt64) : Bool := Float64.cmp a b == some .eq
noncomputable def fle (a b : UInt64) : Bool := Float64.cmp a b == some .lt || Float64.cmp a b == some .eq
noncomputable def rgF (r g b : UInt64) : UInt64 := Float64.sub (mx3 r g b) (mn3 r g b)
noncomputable def xcF (r g b x : UInt64) : UInt64 := Float64.div (Float64.sub (mx3 r g b) x) (rgF r g b)
noncomputable def hrF (r g b : UInt64) : UInt64 :=
  if feq r (mx3 r g b) then Float64.sub (xcF r g b b) (xcF r g b g)
  else if feq g (mx3 r g b) then Float64.sub (Float64.add 0x4000000000000000 (xcF r g b r)) (xcF r g b b)
  else Float64.sub (Float64.add 0x4010000000000000 (xcF r g b g)) (xcF r g b r)
noncomputable def hueF (r g b : UInt64) : UInt64 := (Float64.divmod (Float64.div (hrF r g b) 0x4018000000000000) 0x3ff0000000000000).snd
noncomputable def hsvF (r g b : UInt64) : List UInt64 := if feq (mn3 r g b) (mx3 r g b) then [0, 0, mx3 r g b] else [hueF r g b, Float64.div (rgF r g b) (mx3 r g b), mx3 r g b]
noncomputable def lF (r g b : UInt64) : UInt64 := Float64.div (Float64.add (mx3 r g b) (mn3 r g b)) 0x4000000000000000
noncomputable def sF (r g b : UInt64) : UInt64 := if fle (lF r g b) 0x3fe0000000000000 then Float64.div (rgF r g b) (Float64.add (mx3 r g b) (mn3 r g b)) else Float64.div (rgF r g b) (Float64.sub (Float64.sub 0x4000000000000000 (mx3 r g b)) (mn3 r g b))
noncomputable def hlsF (r g b : UInt64) : List UInt64 := if feq (mn3 r g b) (mx3 r g b) then [0, lF r g b, 0] else [hueF r g b, lF r g b, sF r g b]
theorem bind_hsv (P : Params) : ∀ vs : List Value, vs.length = 3 → bindArgs (fdAt P 77) ⟨vs, []⟩ = pure ((["r", "g", "b"] : List Str).zip vs) := by
  intro vs h
  obtain ⟨a, b, c, rfl⟩ := len3 h
  kernel_rfl
theorem bind_hls (P : Params) : ∀ vs : List Value, vs.length = 3 → bindArgs (fdAt P 70) ⟨vs, []⟩ = pure ((["r", "g", "b"] : List Str).zip vs) := by
  intro vs h
  obtain ⟨a, b, c, rfl⟩ := len3 h
  kernel_rfl
theorem z6 : Float64.isZero 0x4018000000000000 = false := by decide +kernel
theorem z1 : Float64.isZero 0x3ff0000000000000 = false := by decide +kernel
theorem z2 : Float64.isZero 0x4000000000000000 = false := by decide +kernel
theorem fn_hsv {G : G0} (g : GN G) (k : Nat) {r gg b : UInt64} (hz : feq (mn3 r gg b) (mx3 r gg b) = false → Float64.isZero (rgF r gg b) = false ∧ Float64.isZero (mx3 r gg b) = false) :
    Fn G 77 (k + 1) [.flt r, .flt gg, .flt b] (.tup ((hsvF r gg b).map .flt)) := by
  refine Fn.mk g.toOk (sc := ?sc) (fd := fdAt G.w.params 77) (body := bodyAt G.w.params 77) ["r", "g", "b"] ?hsc (g.get (by rfl : (fr.heap_1 G.w.params).lookup 77 = some (objAt G.w.params 77))) rfl
    ⟨76, _, _, _, rfl, g.get rfl, rfl, rfl⟩ rfl rfl rfl rfl ?hnd (by decide) rfl (bind_hsv _) ?hk ?main
  case hsc => conv => lhs; whnf
  case hnd => exact of_decide_eq_true (by rfl)
  case hk =>
    simp only [List.mem_cons, or_false, forall_eq_or_imp, forall_eq, List.not_mem_nil]
    exact ⟨.inl rfl, .inl rfl, .inl rfl⟩
  case main =>
  intro nd A s0 L rm W
  conv => arg 3; whnf
  refine Tri.asgA W (r := .flt (mx3 r gg b)) (EvE.call (f := .builtin "max") (EvE.name (Has.builtin rfl (g.glob rfl) rfl)) .builtin (.cons (nL W) (.cons (nL W) (.cons (nL W) .nil))) CaR.max3) rfl (.inl rfl) ?_
  refine Tri.asgA W (r := .flt (mn3 r gg b)) (EvE.call (f := .builtin "min") (EvE.name (Has.builtin rfl (g.glob rfl) rfl)) .builtin (.cons (nL W) (.cons (nL W) (.cons (nL W) .nil))) CaR.min3) rfl (.inl rfl) ?_
  refine Tri.asgA W (r := .flt (rgF r gg b)) (EvE.bin (nL W) (nL W) .subF) rfl (.inl rfl) ?_
  refine Tri.asgA W (r := .flt (mx3 r gg b)) (nL W) rfl (.inl rfl) ?_
  refine Tri.if W (x := feq (mn3 r gg b) (mx3 r gg b)) (EvT.cmp (nL W) (nL W) .eqF) (fun hx => ?_) (fun hx => ?_)
  · have e : hsvF r gg b = [0, 0, mx3 r gg b] := by unfold hsvF; rw [if_pos hx]
    rw [e]
    exact Tri.retF W (EvF.tuple (.cons .flt (.cons .flt (.cons (nL W) .nil))) rfl (by simp)) fun s v h y => ⟨v, rfl, h.toExt W, y⟩
  have e : hsvF r gg b = [hueF r gg b, Float64.div (rgF r gg b) (mx3 r gg b), mx3 r gg b] := by unfold hsvF; rw [if_neg (by rw [hx]; decide)]
  rw [e]
  obtain ⟨zr, zm⟩ := hz hx
  refine Tri.back ?_
  refine Tri.asgA W (r := .flt (Float64.div (rgF r gg b) (mx3 r gg b))) (EvE.bin (nL W) (nL W) (.divF zm)) rfl (.inl rfl) ?_
  refine Tri.asgA W (r := .flt (xcF r gg b r)) (EvE.bin (EvE.bin (nL W) (nL W) .subF) (nL W) (.divF zr)) rfl (.inl rfl) ?_
  refine Tri.asgA W (r := .flt (xcF r gg b gg)) (EvE.bin (EvE.bin (nL W) (nL W) .subF) (nL W) (.divF zr)) rfl (.inl rfl) ?_
  refine Tri.asgA W (r := .flt (xcF r gg b b)) (EvE.bin (EvE.bin (nL W) (nL W) .subF) (nL W) (.divF zr)) rfl (.inl rfl) ?_
  refine Tri.if W (x := feq r (mx3 r gg b)) (EvT.cmp (nL W) (nL W) .eqF) (fun h1 => ?_) (fun h1 => ?_)
  · have eh : hrF r gg b = Float64.sub (xcF r gg b b) (xcF r gg b gg) := by unfold hrF; rw [if_pos h1]
    refine Tri.asgA W (r := .flt (hrF r gg b)) (eh ▸ EvE.bin (nL W) (nL W) .subF) rfl (.inl rfl) (Tri.back ?_)
    refine Tri.asgA W (r := .flt (hueF r gg b)) (EvE.bin (EvE.bin (nL W) .flt (.divF z6)) .flt (.modF z1)) rfl (.inl rfl) ?_
    exact Tri.retF W (EvF.tuple (.cons (nL W) (.cons (nL W) (.cons (nL W) .nil))) rfl (by simp)) fun s v h y => ⟨v, rfl, h.toExt W, y⟩
  have n1 : ¬ feq r (mx3 r gg b) = true := by rw [h1]; decide
  refine Tri.if W (x := feq gg (mx3 r gg b)) (EvT.cmp (nL W) (nL W) .eqF) (fun h2 => ?_) (fun h2 => ?_)
  · have eh : hrF r gg b = Float64.sub (Float64.add 0x4000000000000000 (xcF r gg b r)) (xcF r gg b b) := by unfold hrF; rw [if_neg n1, if_pos h2]
    refine Tri.asgA W (r := .flt (hrF r gg b)) (eh ▸ EvE.bin (EvE.bin .flt (nL W) .addF) (nL W) .subF) rfl (.inl rfl) (Tri.back (Tri.back ?_))
    refine Tri.asgA W (r := .flt (hueF r gg b)) (EvE.bin (EvE.bin (nL W) .flt (.divF z6)) .flt (.modF z1)) rfl (.inl rfl) ?_
    exact Tri.retF W (EvF.tuple (.cons (nL W) (.cons (nL W) (.cons (nL W) .nil))) rfl (by simp)) fun s v h y => ⟨v, rfl, h.toExt W, y⟩
  · have eh : hrF r gg b = Float64.sub (Float64.add 0x4010000000000000 (xcF r gg b gg)) (xcF r gg b r) := by unfold hrF; rw [if_neg n1, if_neg (by rw [h2]; decide)]
    refine Tri.asgA W (r := .flt (hrF r gg b)) (eh ▸ EvE.bin (EvE.bin .flt (nL W) .addF) (nL W) .subF) rfl (.inl rfl) (Tri.back (Tri.back ?_))
    refine Tri.asgA W (r := .flt (hueF r gg b)) (EvE.bin (EvE.bin (nL W) .flt (.divF z6)) .flt (.modF z1)) rfl (.inl rfl) ?_
    exact Tri.retF W (EvF.tuple (.cons (nL W) (.cons (nL W) (.cons (nL W) .nil))) rfl (by simp)) fun s v h y => ⟨v, rfl, h.toExt W, y⟩
theorem fn_hls {G : G0} (g : GN G) (k : Nat) {r gg b : UInt64} (hz : feq (mn3 r gg b) (mx3 r gg b) = false → Float64.isZero (rgF r gg b) = false ∧ Float64.isZero (Float64.add (mx3 r gg b) (mn3 r gg b)) = false ∧ Float64.isZero (Float64.sub (Float64.sub 0x4000000000000000 (mx3 r gg b)) (mn3 r gg b)) = false) :
    Fn G 70 (k + 1) [.flt r, .flt gg, .flt b] (.tup ((hlsF r gg b).map .flt)) := by
  refine Fn.mk g.toOk (sc := ?sc) (fd := fdAt G.w.params 70) (body := bodyAt G.w.params 70) ["r", "g", "b"] ?hsc (g.get (by rfl : (fr.heap_1 G.w.params).lookup 70 = some (objAt G.w.params 70))) rfl
    ⟨69, _, _, _, rfl, g.get rfl, rfl, rfl⟩ rfl rfl rfl rfl ?hnd (by decide) rfl (bind_hls _) ?hk ?main
  case hsc => conv => lhs; whnf
  case hnd => exact of_decide_eq_true (by rfl)
  case hk =>
    simp only [List.mem_cons, or_false, forall_eq_or_imp, forall_eq, List.not_mem_nil]
    exact ⟨.inl rfl, .inl rfl, .inl rfl⟩
  case main =>
  intro nd A s0 L rm W
  conv => arg 3; whnf
  refine Tri.asgA W (r := .flt (mx3 r gg b)) (EvE.call (f := .builtin "max") (EvE.name (Has.builtin rfl (g.glob rfl) rfl)) .builtin (.cons (nL W) (.cons (nL W) (.cons (nL W) .nil))) CaR.max3) rfl (.inl rfl) ?_
  refine Tri.asgA W (r := .flt (mn3 r gg b)) (EvE.call (f := .builtin "min") (EvE.name (Has.builtin rfl (g.glob rfl) rfl)) .builtin (.cons (nL W) (.cons (nL W) (.cons (nL W) .nil))) CaR.min3) rfl (.inl rfl) ?_
  refine Tri.asgA W (r := .flt (Float64.add (mx3 r gg b) (mn3 r gg b))) (EvE.bin (nL W) (nL W) .addF) rfl (.inl rfl) ?_
  refine Tri.asgA W (r := .flt (rgF r gg b)) (EvE.bin (nL W) (nL W) .subF) rfl (.inl rfl) ?_
  refine Tri.asgA W (r := .flt (lF r gg b)) (EvE.bin (nL W) .flt (.divF z2)) rfl (.inl rfl) ?_
  refine Tri.if W (x := feq (mn3 r gg b) (mx3 r gg b)) (EvT.cmp (nL W) (nL W) .eqF) (fun hx => ?_) (fun hx => ?_)
  · have e : hlsF r gg b = [0, lF r gg b, 0] := by unfold hlsF; rw [if_pos hx]
    rw [e]
    exact Tri.retF W (EvF.tuple (.cons .flt (.cons (nL W) (.cons .flt .nil))) rfl (by simp)) fun s v h y => ⟨v, rfl, h.toExt W, y⟩
  have e : hlsF r gg b = [hueF r gg b, lF r gg b, sF r gg b] := by unfold hlsF; rw [if_neg (by rw [hx]; decide)]
  rw [e]
  obtain ⟨zr, zs, zd⟩ := hz hx
  refine Tri.back ?_
  have es1 : fle (lF r gg b) 0x3fe0000000000000 = true → sF r gg b = Float64.div (rgF r gg b) (Float64.add (mx3 r gg b) (mn3 r gg b)) := fun h => by unfold sF; rw [if_pos h]
  have es2 : fle (lF r gg b) 0x3fe0000000000000 = false → sF r gg b = Float64.div (rgF r gg b) (Float64.sub (Float64.sub 0x4000000000000000 (mx3 r gg b)) (mn3 r gg b)) := fun h => by unfold sF; rw [if_neg (by rw [h]; decide)]
  refine (fun K => Tri.if W (x := fle (lF r gg b) 0x3fe0000000000000) (EvT.cmp (nL W) .flt .leF) (fun h1 => Tri.asgA W (r := .flt (sF r gg b)) (es1 h1 ▸ EvE.bin (nL W) (nL W) (.divF zs)) rfl (.inl rfl) (Tri.back K)) (fun h1 => Tri.asgA W (r := .flt (sF r gg b)) (es2 h1 ▸ EvE.bin (nL W) (EvE.bin (EvE.bin .flt (nL W) .subF) (nL W) .subF) (.divF zd)) rfl (.inl rfl) (Tri.back K))) ?_
  refine Tri.asgA W (r := .flt (xcF r gg b r)) (EvE.bin (EvE.bin (nL W) (nL W) .subF) (nL W) (.divF zr)) rfl (.inl rfl) ?_
  refine Tri.asgA W (r := .flt (xcF r gg b gg)) (EvE.bin (EvE.bin (nL W) (nL W) .subF) (nL W) (.divF zr)) rfl (.inl rfl) ?_
  refine Tri.asgA W (r := .flt (xcF r gg b b)) (EvE.bin (EvE.bin (nL W) (nL W) .subF) (nL W) (.divF zr)) rfl (.inl rfl) ?_
  refine Tri.if W (x := feq r (mx3 r gg b)) (EvT.cmp (nL W) (nL W) .eqF) (fun h1 => ?_) (fun h1 => ?_)
  · have eh : hrF r gg b = Float64.sub (xcF r gg b b) (xcF r gg b gg) := by unfold hrF; rw [if_pos h1]
    refine Tri.asgA W (r := .flt (hrF r gg b)) (eh ▸ EvE.bin (nL W) (nL W) .subF) rfl (.inl rfl) (Tri.back ?_)
    refine Tri.asgA W (r := .flt (hueF r gg b)) (EvE.bin (EvE.bin (nL W) .flt (.divF z6)) .flt (.modF z1)) rfl (.inl rfl) ?_
    exact Tri.retF W (EvF.tuple (.cons (nL W) (.cons (nL W) (.cons (nL W) .nil))) rfl (by simp)) fun s v h y => ⟨v, rfl, h.toExt W, y⟩
  have n1 : ¬ feq r (mx3 r gg b) = true := by rw [h1]; decide
  refine Tri.if W (x := feq gg (mx3 r gg b)) (EvT.cmp (nL W) (nL W) .eqF) (fun h2 => ?_) (fun h2 => ?_)
  · have eh : hrF r gg b = Float64.sub (Float64.add 0x4000000000000000 (xcF r gg b r)) (xcF r gg b b) := by unfold hrF; rw [if_neg n1, if_pos h2]
    refine Tri.asgA W (r := .flt (hrF r gg b)) (eh ▸ EvE.bin (EvE.bin .flt (nL W) .addF) (nL W) .subF) rfl (.inl rfl) (Tri.back (Tri.back ?_))
    refine Tri.asgA W (r := .flt (hueF r gg b)) (EvE.bin (EvE.bin (nL W) .flt (.divF z6)) .flt (.modF z1)) rfl (.inl rfl) ?_
    exact Tri.retF W (EvF.tuple (.cons (nL W) (.cons (nL W) (.cons (nL W) .nil))) rfl (by simp)) fun s v h y => ⟨v, rfl, h.toExt W, y⟩
  · have eh : hrF r gg b = Float64.sub (Float64.add 0x4010000000000000 (xcF r gg b gg)) (xcF r gg b r) := by unfold hrF; rw [if_neg n1, if_neg (by rw [h2]; decide)]
    refine Tri.asgA W (r := .flt (hrF r gg b)) (eh ▸ EvE.bin (EvE.bin .flt (nL W) .addF) (nL W) .subF) rfl (.inl rfl) (Tri.back (Tri.back ?_))
    refine Tri.asgA W (r := .flt (hueF r gg b)) (EvE.bin (EvE.bin (nL W) .flt (.divF z6)) .flt (.modF z1)) rfl (.inl rfl) ?_
    exact Tri.retF W (EvF.tuple (.cons (nL W) (.cons (nL W) (.cons (nL W) .nil))) rfl (by simp)) fun s v h y => ⟨v, rfl, h.toExt W, y⟩
noncomputable def pt4 (p : Int) : UInt64 := fracI (1 + 2 * p) 4
noncomputable def chkP (r g b : Int) : Bool :=
  (feq (mn3 (pt4 r) (pt4 g) (pt4 b)) (mx3 (pt4 r) (pt4 g) (pt4 b)) || (!Float64.isZero (rgF (pt4 r) (pt4 g) (pt4 b)) && !Float64.isZero (mx3 (pt4 r) (pt4 g) (pt4 b)) && !Float64.isZero (Float64.add (mx3 (pt4 r) (pt4 g) (pt4 b)) (mn3 (pt4 r) (pt4 g) (pt4 b))) && !Float64.isZero (Float64.sub (Float64.sub 0x4000000000000000 (mx3 (pt4 r) (pt4 g) (pt4 b))) (mn3 (pt4 r) (pt4 g) (pt4 b)))))
theorem chkP_all : (([0, 1] : List Int).all fun r => ([0, 1] : List Int).all fun g => ([0, 1] : List Int).all fun b => chkP r g b) = true := by decide +kernel
theorem EvF.comp0 {c : Cx} {elt target iter : Expr} {scope : Scope} {pos : Pos} {n : Nat} {bs : Nat → List (Str × AV)} {Tg : Env → List (Str × Addr) → (Addr → Prop) → Prop} {f : Nat → AV}
    (hi : EvG c iter target n bs Tg) (hn : n ≤ 1000000) (ha : ((List.range n).map f).all AV.atom = true) (hnd : (scope.names.map Prod.fst).Nodup)
    (hfree : (scope.names.map Prod.fst).Nodup → c.Ok → ∀ p ∈ scope.names, p.2 = .free → (c.env.cells.lookup p.1).isSome = true)
    (htg : (scope.names.map Prod.fst).Nodup → ∀ C P', FOk (innerEnv c.env scope C) (ownOf scope C) P' → Tg (innerEnv c.env scope C) (ownOf scope C) P')
    (hb : (scope.names.map Prod.fst).Nodup → c.Ok → ∀ C MU i, i < n → (∀ a ∈ (ownOf scope C).map (·.2), a ∉ Tb) → EvE (c.inner scope C MU (bs i)) elt (f i))
    (hk : scope.kind = .function := by rfl) (hs : ∀ x, foldedSetIterable iter c.env x = pure x := by intro _; rfl) :
    EvF c (.ListComp elt [⟨target, iter, [], 0⟩] scope pos) (.list ((List.range n).map f)) := by
  have := EvF.comp (elt := elt) (ifs := []) (scope := scope) (pos := pos) (t := fun _ => true) (f := f) hi ⟨hn, hk, hnd, hfree hnd, htg hnd, fun o C MU i hi ha => ⟨.nil, fun _ => hb hnd o C MU i hi ha⟩⟩ (by rwa [List.filter_eq_self.mpr (by simp)]) hs
  rwa [List.filter_eq_self.mpr (by simp)] at this
noncomputable def cntH (el fl : List Int) (h : Int) : Int := ((List.range el.length).map fun (i : Nat) => if nth fl (nth el i) == h then (1 : Int) else 0).sum
noncomputable def parH (el fl : List Int) (h : Int) : Int := (cntH el fl h).fmod 2
noncomputable def paintF (el fl : List Int) : List UInt64 := [1, 2, 3].map fun h => pt4 (parH el fl h)
theorem parH_01 (el fl : List Int) (h : Int) : parH el fl h = 0 ∨ parH el fl h = 1 := by
  unfold parH
  rw [Int.fmod_eq_emod_of_nonneg _ (by decide)]
  omega
theorem preSum_01 (val : Nat → Int) (h : ∀ j, 0 ≤ val j ∧ val j ≤ 1) : ∀ j : Nat, 0 ≤ preSum val j ∧ preSum val j ≤ j
  | 0 => by simp [preSum]
  | j + 1 => by
    have := preSum_01 val h j
    have := h j
    unfold preSum
    omega
theorem inf4 {p : Int} (h : p = 0 ∨ p = 1) : Float64.isInf (fracI (1 + 2 * p) 4) = false := by
  rcases h with rfl | rfl <;> decide +kernel
theorem bind_paint (P : Params) : ∀ vs : List Value, vs.length = 2 → bindArgs (fdAt P 151) ⟨vs, []⟩ = pure ((["ends", "flow"] : List Str).zip vs) := by
  intro vs h
  obtain ⟨a, b, rfl⟩ := len2 h
  kernel_rfl
theorem fn_paint {G : G0} (g : GN G) (k : Nat) {el fl : List Int} (hel : el.length ≤ 100) (hfl : fl.length ≤ 100) (hk : ∀ i : Nat, i < el.length → 0 ≤ nth el i ∧ nth el i < fl.length) : Fn G 151 (k + 1) [intsA el, intsA fl] (.list ((paintF el fl).map .flt)) := by
  refine Fn.mk g.toOk (sc := ?sc) (fd := fdAt G.w.params 151) (body := bodyAt G.w.params 151) ["ends", "flow"] ?hsc (g.get (by rfl : (fr.heap_1 G.w.params).lookup 151 = some (objAt G.w.params 151))) rfl
    ⟨150, _, _, _, rfl, g.get rfl, rfl, rfl⟩ rfl rfl rfl rfl ?hnd (by decide) rfl (bind_paint _) ?hk ?main
  case hsc => conv => lhs; whnf
  case hnd => exact of_decide_eq_true (by rfl)
  case hk =>
    simp only [List.mem_cons, or_false, forall_eq_or_imp, forall_eq, List.not_mem_nil]
    exact ⟨.inr rfl, .inr rfl⟩
  case main =>
  intro nd A s0 L rm W
  conv => arg 3; whnf
  have oE := own_look (C := L) nd (x := "ends") rfl
  have oF := own_look (C := L) nd (x := "flow") rfl
  have hres : AV.list ((paintF el fl).map .flt) = .list ((List.range 3).map fun (i : Nat) => .flt (pt4 (parH el fl (nth [1, 2, 3] (i : Nat))))) := rfl
  rw [hres]
  refine Tri.retF W (EvF.comp0 (bs := fun i => [(("hue" : Str), AV.int (nth [1, 2, 3] (i : Nat)))]) (EvG.nm (EvI.tuple (xs := [.int 1, .int 2, .int 3]) (EvE.tuple (.cons .int (.cons .int (.cons .int .nil)))) (by decide)) rfl (fun i => AV.int (nth [1, 2, 3] (i : Nat))) ?_) (by decide) rfl (of_decide_eq_true (by rfl)) ?_ ?_ ?_) fun s v h y => ⟨v, rfl, h.toExt W, y⟩
  · intro i hi
    match i, hi with
    | 0, _ => rfl
    | 1, _ => rfl
    | 2, _ => rfl
  · exact fun hnd o => free3 (by rfl)
  · exact fun hnd C P' F => Kd.inner hnd rfl (.inr rfl)
  · intro hnd o C MU i hi hT
    generalize nth [1, 2, 3] (i : Nat) = h
    have p01 := parH_01 el fl h
    refine EvE.bin (EvE.bin .int (EvE.bin .int (EvE.bin ?_ .int (.fmod (by decide) (by decide))) (.mul (.of_left (by decide +kernel)))) .add) .int (.divI (by decide) (inf4 p01))
    refine EvE.call (f := .builtin "sum") (EvE.name (Has.builtin rfl (g.glob rfl) rfl)) .builtin (rs := [.list ((List.range el.length).map fun (i : Nat) => .int (if nth fl (nth el i) == h then (1 : Int) else 0))]) (.cons ?_ .nil) (CaR.sum ?_)
    · refine EvE.comp0 (bs := fun i => [(("k" : Str), AV.int (nth el (i : Nat)))]) (EvG.nm (EvI.list (nF o hnd (cC W oE)) (by rw [List.length_map]; omega)) (by rw [List.length_map]) (fun i => AV.int (nth el (i : Nat))) ?_) (by omega) (of_decide_eq_true (by rfl)) ?_ ?_ ?_
      · intro i hi
        have := intsA_get (l := el) (i := (i : Int)) (by omega) (by omega)
        simpa using this
      · exact fun hnd2 o2 => free3 (by rfl)
      · exact fun hnd2 C2 P' F => Kd.inner hnd2 rfl (.inl rfl)
      · intro hnd2 o2 C2 MU2 j hj hT2
        obtain ⟨k0, k1⟩ := hk j hj
        refine EvE.call (f := .type "int") (EvE.name (Has.builtin rfl (g.glob rfl) rfl)) .type (.cons (EvE.cmp (EvE.sub (nF o2 hnd2 (CellHas.inner o (cC W oF) hnd rfl)) (nH hnd2) (OpR.itemL k0 (by omega) (intsA_get k0 k1))) (nF o2 hnd2 (CellHas.here hnd rfl rfl hT)) .eqI) .nil) CaR.intB
    · intro j hj
      have b1 : ∀ j : Nat, (0 : Int) ≤ (if nth fl (nth el (j : Nat)) == h then (1 : Int) else 0) ∧ (if nth fl (nth el (j : Nat)) == h then (1 : Int) else 0) ≤ 1 := fun j => by split <;> decide
      have b2 := preSum_01 (fun (i : Nat) => if nth fl (nth el i) == h then (1 : Int) else 0) b1 (j + 1)
      have b3 := b1 j
      unfold InLong
      omega
theorem ok_stat (P : Params) : nsOkIn (fr.heap_1 P) cStatics = true := by
  conv => lhs; whnf
  simp
  rfl
theorem GK.booked {G : G0} (g : GK G) {s : Shared} {P : Addr → Prop} (h : Glob G P s) : NoneBooked s.heap := by
  have X : G.K.In s.heap := h.kin g.toOk
  rw [g.K] at X
  exact ⟨_, .of_isNs (isNs_of_in X (ok_stat _)), nsMap_none_of_in X (ok_stat _) (by rfl)⟩
theorem eqAt_flt {A : Around} {s : Shared} {x y : UInt64} {t u : Tok} (h0 : (t == 0 || u == 0) = false) (htu : (t == u) = false) (hb : NoneBooked s.heap) (hx : x = y → feq x y = true) : SeqAt.EqAt A s (.float x t) (.float y u) (feq x y) := fun prog w E Q h => by
  have slow : wpAny (model prog w) A (richCompare .Eq (.float x t) (.float y u) >>= truthOfDropped) Q E s := by
    refine wpAny_bind ?_
    exact richCompare_gives (op := .Eq) (T := "float") rfl rfl F.slot_float_eq F.entry_float_eq (F.args_float_eq_2 _ _) (AutoFloatG5.float___eq___float_float_0 x t y u) (fun x => nomatch x) (wpAny_truthy_bool h)
  unfold eqBool
  refine wpAny_holding ?_
  refine wpAny_ite_split (fun hab => ?_) (fun _ => ?_)
  · have := eq_of_beq hab
    injection this with e1 e2
    rw [e2] at htu; simp at htu
  · show wpAny _ _ (isSame (.float x t) (.float y u) >>= _) Q E s
    refine wpAny_bind ?_
    show wpAny _ A (isSame.created (x == y && !Float64.isNaN x) t u) _ E s
    unfold isSame.created
    refine wpAny_ite ?_
    rw [h0, if_neg Bool.false_ne_true]
    refine wpAny_ite ?_
    rw [htu, if_neg Bool.false_ne_true]
    refine wpAny_ite ?_
    cases hxy : x == y && !Float64.isNaN x
    · rw [if_pos (by rfl)]
      refine wpAny_pure ?_
      exact slow
    · rw [if_neg (by decide)]
      refine wpAny_bind (wpAny_sharingNotTold_none hb ?_)
      rw [if_neg Bool.false_ne_true]
      refine wpAny_bind (wpAny_sharingNotTold_none hb ?_)
      rw [if_neg Bool.false_ne_true]
      refine wpAny_bind (wpAny_rule (wpAny_bind (wpAny_askSetting (wpAny_pure ?_))))
      have e : feq x y = true := hx (by simp at hxy; exact hxy.1)
      split
      · exact wpAny_pure (e ▸ h)
      · exact slow
section
variable {c : Cx}
noncomputable def EvNP (c : Cx) (e : Expr) (a b : UInt64) : Prop := c.Ok → ∀ s Q E, c.Φ s → (∀ l t u s', Ext c.G s s' → s.toks ≤ t → s.toks ≤ u → s'.heap.IsTuple l #[.float a t, .float b u] → Q (.ref l) s') → wpAny c.M c.A (eval e c.env) Q E s
theorem EvNP.div {n1 m1 n2 m2 : Int} {k1 k2 k3 k4 p1 p2 p3 p4 p5 p6 k pos} (h1 : m1 ≠ 0) (h2 : m2 ≠ 0) (i1 : Float64.isInf (fracI n1 m1) = false) (i2 : Float64.isInf (fracI n2 m2) = false) :
    EvNP c (.Tuple [.BinOp (.Constant (.int n1) k1 p1) .Div (.Constant (.int m1) k2 p2) p3, .BinOp (.Constant (.int n2) k3 p4) .Div (.Constant (.int m2) k4 p5) p6] k pos) (fracI n1 m1) (fracI n2 m2) := fun o s Q E hs kk => by
  refine wpAny_Tuple (wpAny_items_cons (wpAny_BinOp (wpAny_Constant_int (wpAny_Constant_int (AutoIntOps.truediv_2 (by simpa using h1) (by show ¬ Float64.isInf (fracI n1 m1) = true; rw [i1]; decide) ?_)))) (by rfl))
  refine wpAny_items_cons (wpAny_BinOp (wpAny_Constant_int (wpAny_Constant_int (AutoIntOps.truediv_2 (by simpa using h2) (by show ¬ Float64.isInf (fracI n2 m2) = true; rw [i2]; decide) (wpAny_items_nil ?_))))) (by rfl)
  refine ⟨Nat.le_trans (show (2 : Nat) ≤ 1000 by decide) (by decide), ?_⟩
  refine kk _ _ _ _ (Ext.of (tk := s.toks + 1 + 1 + 1 + 1 + 1 + 1) o.g fun _ _ e => Heap.get?_push_of_some _ e) ?_ ?_ ⟨_, Heap.get?_push_size _ rfl, rfl, _, rfl⟩
  · show s.toks ≤ s.toks + 1 + 1; omega
  · show s.toks ≤ s.toks + 1 + 1 + 1 + 1 + 1; omega
theorem EvNP.ifexp {t x y pos b} {a1 b1 a2 b2 : UInt64} (h : EvT c t b) (h1 : EvNP c x a1 b1) (h2 : EvNP c y a2 b2) : EvNP c (.IfExp t x y pos) (if b then a1 else a2) (if b then b1 else b2) := fun o s Q E hs k => by
  refine IfExp_ (h o s _ _ hs fun s1 x1 => ?_)
  cases b with
  | true => exact h1 o s1 _ _ (o.stab _ _ hs x1) fun l t u s2 x2 q1 q2 q3 => k l t u s2 (x1.trans x2) (Nat.le_trans x1.le q1) (Nat.le_trans x1.le q2) q3
  | false => exact h2 o s1 _ _ (o.stab _ _ hs x1) fun l t u s2 x2 q1 q2 q3 => k l t u s2 (x1.trans x2) (Nat.le_trans x1.le q1) (Nat.le_trans x1.le q2) q3
theorem EvT.nePair {l r pos} {a b a' b' : UInt64} (hb : ∀ s, c.Φ s → NoneBooked s.heap) (h1 : EvE c l (.tup [.flt a, .flt b])) (h2 : EvNP c r a' b') (ha : a = a' → feq a a' = true) (hbb : b = b' → feq b b' = true) (hm : behindInMarks .NotEq r = false := by with_unfolding_all rfl) :
    EvT c (.Compare l [.NotEq] [r] pos) (!(feq a a' && feq b b')) := fun o s Q E hs k => by
  refine wpAny_isTrue_Compare1 ?_ hm
  refine h1 o s hs _ _ fun v1 s1 x1 y1 => ?_
  have hs1 := o.stab _ _ hs x1
  refine h2 o s1 _ _ hs1 fun l2 t2 u2 s2 x2 q1 q2 ht2 => ?_
  have hs2 := o.stab _ _ hs1 x2
  replace y1 := VR.tupI y1
  obtain ⟨l1, vs, rfl, pl, hl, hv⟩ := y1
  ·
    replace hv := VRs.consI hv
    obtain ⟨v1, _, rfl, z1, hv⟩ := hv
    ·
      replace hv := VRs.consI hv
      obtain ⟨v2, _, rfl, z2, hv⟩ := hv
      ·
        (first | ((first | replace hv := VR.intI hv | replace hv := VR.strI hv); obtain ⟨_, rfl⟩ := hv) | ((first | replace hv := VR.rawI hv | replace hv := VRs.nilI hv | replace hv := VR.boolI hv | replace hv := VR.noneI hv); subst hv) | cases hv)
        replace z1 := VR.fltI z1
        obtain ⟨t1, rfl, t10, t1b⟩ := z1
        ·
          replace z2 := VR.fltI z2
          obtain ⟨u1, rfl, u10, u1b⟩ := z2
          ·
            have hl2 : s2.heap.IsTuple l1 #[.float a t1, .float b u1] := by
              obtain ⟨ob, e, r⟩ := hl
              exact ⟨ob, x2.keep _ _ (o.pt _ pl) e, r⟩
            have B := hb s2 hs2
            have nz : ∀ {p q : Tok}, @LT.lt Nat _ 0 p → @LT.lt Nat _ p q → (p == 0 || q == 0) = false ∧ (p == q) = false := fun {p q} h1 h2 =>
              ⟨Bool.or_eq_false_iff.mpr ⟨beq_eq_false_iff_ne.mpr (Nat.ne_of_gt h1), beq_eq_false_iff_ne.mpr (Nat.ne_of_gt (Nat.lt_trans h1 h2))⟩, beq_eq_false_iff_ne.mpr (Nat.ne_of_lt h2)⟩
            have f1 := nz t10 (Nat.lt_of_lt_of_le t1b q1)
            have f2 := nz u10 (Nat.lt_of_lt_of_le u1b q2)
            refine SeqAt.RcNeAt.tuples (e := fun j => if j = 0 then feq a a' else feq b b') hl2 ht2 (by have := o.units; omega) (fun j h1 h2 => ?_) _ _ _ _ (wpAny_truthy_bool ?_)
            rotate_left
            · have e : (((List.range (min (#[Value.float a t1, Value.float b u1] : Array Value).size (#[Value.float a' t2, Value.float b' u2] : Array Value).size)).all fun j => if j = 0 then feq a a' else feq b b') && (#[Value.float a t1, Value.float b u1] : Array Value).size == (#[Value.float a' t2, Value.float b' u2] : Array Value).size) = (feq a a' && feq b b') := by
                show (([0, 1] : List Nat).all (fun j => if j = 0 then feq a a' else feq b b') && (2 : Nat) == 2) = _
                simp
              rw [e]
              exact k s2 (x1.trans x2)
            match j, h1 with
            | 0, _ => exact eqAt_flt f1.1 f1.2 B ha
            | 1, _ => exact eqAt_flt f2.1 f2.2 B hbb
theorem EvF.star {x : Str} {p pos sp : Pos} {e : Expr} {f : Addr} {k : Nat} {rs : List AV} {res : AV} (hf : EvE c (.Name x p) (.raw (.ref f))) (hkk : keepIn c.G.K (.ref f) = true) (ha : EvE c e (.list rs)) (hn : rs.length ≤ 1000) (h : Fn c.G f k rs res) (rm : Rm c.A k) (he : starEach [.Starred e sp] c.env = [(true, eval e c.env)] := by rfl) :
    EvF c (.Call (.Name x p) [.Starred e sp] [] pos) res := fun o s Q E hs kk => by
  rw [arm_eval_Call_Name']
  refine wpAny_bind (hf o s hs _ _ fun v s1 x1 y1 => ?_)
  (first | ((first | replace y1 := VR.intI y1 | replace y1 := VR.strI y1); obtain ⟨_, rfl⟩ := y1) | ((first | replace y1 := VR.rawI y1 | replace y1 := VRs.nilI y1 | replace y1 := VR.boolI y1 | replace y1 := VR.noneI y1); subst y1) | cases y1)
  have hs1 := o.stab _ _ hs x1
  refine callWith_S ((o.glob s1 hs1).kin o.g) hkk ?_ he
  refine ha o s1 hs1 _ _ fun v s2 x2 y2 => ?_
  have hs2 := o.stab _ _ hs1 x2
  replace y2 := VR.listI y2
  obtain ⟨a, vs, rfl, pa, hl, hv⟩ := y2
  ·
    obtain ⟨ob, eo, hc, n, hd⟩ := hl
    have hT' : s2.TypeIs (.ref a) "list" := ⟨ob, eo, hc⟩
    unfold StarOf notIterableAtAll
    refine wpAny_bind (wpAny_specialOf hT' PySem.F.slot_list_iter.lookup (wpAny_pure ⟨rfl, ?_⟩))
    refine wpAny_collect_seq a (.inl rfl) eo hc hd (fun h' hk => ?_) (by rw [List.size_toArray, ← hv.length]; exact Nat.le_trans hn (by decide))
    have x3 : Ext c.G s2 { s2 with heap := h' } := Ext.of (tk := s2.toks) o.g hk
    have hs3 := o.stab _ _ hs2 x3
    refine ⟨(o.glob _ hs3).kin o.g, ?_⟩
    exact h.any rfl o rm hs3 (hv.ext o x3) fun v s4 x4 y4 => kk v s4 (((x1.trans x2).trans x3).trans x4) (y4.mono (fun _ _ _ e => e) fun a p => ((x1.trans x2).trans x3).none p)
theorem EvF.ifexp {t a b pos x r} (h : EvT c t x) (h1 : x = true → EvF c a r) (h2 : x = false → EvF c b r) : EvF c (.IfExp t a b pos) r := fun o s Q E hs k => by
  refine IfExp_ (h o s _ _ hs fun s1 x1 => ?_)
  cases x with
  | true => exact h1 rfl o s1 _ _ (o.stab _ _ hs x1) fun v s2 x2 y2 => k v s2 (x1.trans x2) (y2.mono (fun _ _ _ e => e) fun a p => x1.none p)
  | false => exact h2 rfl o s1 _ _ (o.stab _ _ hs x1) fun v s2 x2 y2 => k v s2 (x1.trans x2) (y2.mono (fun _ _ _ e => e) fun a p => x1.none p)
theorem EvE.tupFrom {value : Expr} {n : Nat} {k0 p0 p pos} {xs : List AV} (h : EvE c value (.tup xs)) (h1 : 1 ≤ n) (h2 : n ≤ xs.length) (hx : xs.length ≤ 1000) (ht : ∀ o r, letTemporaryGo value o r = pure () := by intro _ _; rfl) :
    EvE c (.Subscript value (.Slice (some (.Constant (.int (n : Int)) k0 p0)) none none p) pos) (.tup (xs.drop n)) := fun o s hs Q E kk => by
  refine wpAny_Subscript_Slice (T := "tuple") slot_tuple_getitem.lookup ?_ ht
  refine h o s hs _ _ fun v s1 x1 y1 => ?_
  have hs1 := o.stab _ _ hs x1
  refine wpAny_Slice (wpAny_evalPart_some (wpAny_Constant_int (wpAny_evalPart_none (wpAny_evalPart_none ?_))))
  replace y1 := VR.tupI y1
  obtain ⟨l, vs, rfl, pl, hl, hv⟩ := y1
  ·
    have x2 : Ext c.G s1 { s1 with heap := s1.heap.push { cls := .type "slice", data := .fields #[.int (n : Int) s1.toks, .none, .none] }, toks := s1.toks + 1 } := Ext.of (tk := s1.toks + 1) o.g fun _ _ e => Heap.get?_push_of_some _ e
    have hl' : IsTup (s1.heap.push { cls := .type "slice", data := .fields #[.int (n : Int) s1.toks, .none, .none] }) l vs.toArray := by
      obtain ⟨ob, e, r⟩ := hl
      exact ⟨ob, Heap.get?_push_of_some _ e, r⟩
    refine ⟨hl'.typeIs, ?_⟩
    have hlen := hv.length
    refine getItem_tuple_from (s := { s1 with heap := s1.heap.push { cls := .type "slice", data := .fields #[.int (n : Int) s1.toks, .none, .none] }, toks := s1.toks + 1 }) hl' (Heap.IsSliceOf.new ..) h1 (by rw [List.size_toArray, ← hlen]; exact h2) ?_ (by rw [List.size_toArray, ← hlen]; exact Nat.le_trans hx (by decide))
    have x3 : Ext c.G { s1 with heap := s1.heap.push { cls := .type "slice", data := .fields #[.int (n : Int) s1.toks, .none, .none] }, toks := s1.toks + 1 } { s1 with heap := (s1.heap.push { cls := .type "slice", data := .fields #[.int (n : Int) s1.toks, .none, .none] }).push { cls := .type "tuple", data := .seq (vs.toArray.toList.drop n).toArray }, toks := s1.toks + 1 } := Ext.of (tk := s1.toks + 1) (le := Nat.le_refl _) o.g fun _ _ e => Heap.get?_push_of_some _ e
    refine kk _ _ ((x1.trans x2).trans x3) (.tup (vs := vs.drop n) (o.fresh _ _ (o.stab _ _ hs1 x2) (size_none _)) ⟨_, Heap.get?_push_size _ rfl, rfl, _, rfl⟩ ?_)
    exact (VRs.dropN n hv).ext o (x2.trans x3)
where
  VRs.dropN {h : Heap} {τ : Nat} {P : Addr → Prop} : ∀ (n : Nat) {xs vs}, VRs h τ P xs vs → VRs h τ P (xs.drop n) (vs.drop n)
    | 0, _, _, y => y
    | n + 1, _, _, .nil => .nil
    | n + 1, _, _, .cons _ t => VRs.dropN n t
theorem CaR.intF {x : UInt64} {sg : Bool} {m : Nat} {e : Int} (hd : Float64.decode x = .fin sg m e) : CaR c (.type "int") [.flt x] (.int (Float64.truncOf sg m e)) := by
  intro o s vs hs y Q E k
  replace y := VRs.consI y
  obtain ⟨_, _, rfl, y1, y2⟩ := y
  · (first | ((first | replace y2 := VR.intI y2 | replace y2 := VR.strI y2); obtain ⟨_, rfl⟩ := y2) | ((first | replace y2 := VR.rawI y2 | replace y2 := VRs.nilI y2 | replace y2 := VR.boolI y2 | replace y2 := VR.noneI y2); subst y2) | cases y2); (first | ((first | replace y1 := VR.intI y1 | replace y1 := VR.strI y1); obtain ⟨_, rfl⟩ := y1) | ((first | replace y1 := VR.rawI y1 | replace y1 := VRs.nilI y1 | replace y1 := VR.boolI y1 | replace y1 := VR.noneI y1); subst y1) | cases y1); exact call_int_float hd (k _ _ .tok .int)
end
noncomputable def oddOne (a b c : Int) : Int := if a == b then (if b == c then 0 else 3) else (if b == c then 1 else 2)
noncomputable def cT (odd : Bool) (a b c : Int) : List UInt64 := if odd then hsvF (pt4 a) (pt4 b) (pt4 c) else hlsF (pt4 a) (pt4 b) (pt4 c)
noncomputable def f0 (l : List UInt64) : UInt64 := l.getD 0 0
noncomputable def f1 (l : List UInt64) : UInt64 := l.getD 1 0
noncomputable def f2 (l : List UInt64) : UInt64 := l.getD 2 0
theorem cT_shape (odd : Bool) (a b c : Int) : cT odd a b c = [f0 (cT odd a b c), f1 (cT odd a b c), f2 (cT odd a b c)] := by
  have h1 : ∀ r g b, hsvF r g b = [f0 (hsvF r g b), f1 (hsvF r g b), f2 (hsvF r g b)] := fun r g b => by unfold hsvF; split <;> rfl
  have h2 : ∀ r g b, hlsF r g b = [f0 (hlsF r g b), f1 (hlsF r g b), f2 (hlsF r g b)] := fun r g b => by unfold hlsF; split <;> rfl
  cases odd
  · exact h2 _ _ _
  · exact h1 _ _ _
noncomputable def t1F (odd : Bool) : UInt64 := if odd then fracI 2 3 else fracI 1 2
noncomputable def t2F (odd : Bool) : UInt64 := if odd then fracI 3 4 else fracI 1 2
noncomputable def m12 (x : UInt64) : UInt64 := Float64.mul x (Float64.ofInt 12)
noncomputable def isFin (x : UInt64) : Bool := match Float64.decode x with
  | .fin _ _ _ => true
  | _ => false
noncomputable def truI (x : UInt64) : Int := match Float64.decode x with
  | .fin sg m e => Float64.truncOf sg m e
  | _ => 0
theorem isFin_ok {x : UInt64} (h : isFin x = true) : ∃ sg m e, Float64.decode x = .fin sg m e ∧ truI x = Float64.truncOf sg m e := by
  unfold isFin at h
  split at h
  · rename_i sg m e hd
    exact ⟨sg, m, e, hd, by unfold truI; rw [hd]⟩
  · cases h
noncomputable def sixI (n : Int) : Int := (n + 1).fdiv 2
noncomputable def hueI (n : Int) : Int := ((sixI n + (sixI n).fmod 2 * 3).fmod 6).fdiv 2 + 1
noncomputable def chkC (odd : Bool) (a b c : Int) : Bool :=
  ((!(feq (f1 (cT odd a b c)) (t1F odd) && feq (f2 (cT odd a b c)) (t2F odd))) == (oddOne a b c == 0)) && (f1 (cT odd a b c) != t1F odd || feq (f1 (cT odd a b c)) (t1F odd)) && (f2 (cT odd a b c) != t2F odd || feq (f2 (cT odd a b c)) (t2F odd))
    && isFin (m12 (f0 (cT odd a b c))) && (oddOne a b c == 0 || hueI (truI (m12 (f0 (cT odd a b c)))) == oddOne a b c) && ((Float64.cmpInt (f1 (cT true a b c)) 0 == some .eq) == (oddOne a b c == 0))
theorem chkC_all : ([true, false].all fun o => ([0, 1] : List Int).all fun r => ([0, 1] : List Int).all fun g => ([0, 1] : List Int).all fun b => chkC o r g b) = true := by decide +kernel
theorem chkC_ok (o : Bool) {a b c : Int} (ha : a = 0 ∨ a = 1) (hb : b = 0 ∨ b = 1) (hc : c = 0 ∨ c = 1) : chkC o a b c = true := by
  have h := chkC_all
  simp only [List.all_eq_true] at h
  exact h o (by cases o <;> simp) a (by simpa using ha) b (by simpa using hb) c (by simpa using hc)
theorem chkP_ok {a b c : Int} (ha : a = 0 ∨ a = 1) (hb : b = 0 ∨ b = 1) (hc : c = 0 ∨ c = 1) : chkP a b c = true := by
  have h := chkP_all
  simp only [List.all_eq_true] at h
  exact h a (by simpa using ha) b (by simpa using hb) c (by simpa using hc)
theorem fn_hsv4 {G : G0} (g : GN G) (k : Nat) {a b c : Int} (ha : a = 0 ∨ a = 1) (hb : b = 0 ∨ b = 1) (hc : c = 0 ∨ c = 1) : Fn G 77 (k + 1) [.flt (pt4 a), .flt (pt4 b), .flt (pt4 c)] (.tup ((cT true a b c).map .flt)) := by
  refine fn_hsv g k fun h => ?_
  have := chkP_ok ha hb hc
  unfold chkP at this
  rw [h] at this
  simp only [Bool.false_or, Bool.and_eq_true, Bool.not_eq_true'] at this
  exact ⟨this.1.1.1, this.1.1.2⟩
theorem fn_hls4 {G : G0} (g : GN G) (k : Nat) {a b c : Int} (ha : a = 0 ∨ a = 1) (hb : b = 0 ∨ b = 1) (hc : c = 0 ∨ c = 1) : Fn G 70 (k + 1) [.flt (pt4 a), .flt (pt4 b), .flt (pt4 c)] (.tup ((cT false a b c).map .flt)) := by
  refine fn_hls g k fun h => ?_
  have := chkP_ok ha hb hc
  unfold chkP at this
  rw [h] at this
  simp only [Bool.false_or, Bool.and_eq_true, Bool.not_eq_true'] at this
  exact ⟨this.1.1.1, this.1.2, this.2⟩
noncomputable def cHue (es : List (List Int)) (fl : List Int) (pt : Int) : Int := oddOne (parH (nthL es pt) fl 1) (parH (nthL es pt) fl 2) (parH (nthL es pt) fl 3)
noncomputable def cFl (es : List (List Int)) (fl : List Int) (pt : Int) : List Int := fl.set (pt - 1).toNat (cHue es fl pt)
noncomputable def cSt (es : List (List Int)) (ch : List Int) : Nat → Option (List Int)
  | 0 => some ([0, 0, 0] ++ ch)
  | i + 1 => match cSt es ch i with
    | none => none
    | some fl => if cHue es fl (nth [3, 2, 1] (i : Nat)) == 0 then none else some (cFl es fl (nth [3, 2, 1] (i : Nat)))
noncomputable def colours (es : List (List Int)) (ch : List Int) : Int := match cSt es ch 3 with
  | none => 0
  | some fl => if cHue es fl 0 == 0 then 1 else 0
theorem cSt_none {es ch} : ∀ {i : Nat} (k : Nat), cSt es ch i = none → cSt es ch (i + k) = none
  | i, 0, h => h
  | i, k + 1, h => by rw [Nat.add_succ]; unfold cSt; rw [cSt_none k h]
theorem cSt_len {es ch} : ∀ {i : Nat} {fl}, cSt es ch i = some fl → fl.length = 3 + ch.length
  | 0, fl, h => by cases h; simp; omega
  | i + 1, fl, h => by
    unfold cSt at h
    cases e : cSt es ch i with
    | none => rw [e] at h; cases h
    | some f =>
      rw [e] at h
      have := cSt_len e
      simp only at h
      split at h
      · cases h
      · cases h; simp [cFl, this]
theorem bind_col (P : Params) : ∀ vs : List Value, vs.length = 2 → bindArgs (fdAt P 158) ⟨vs, []⟩ = pure ((["ends", "chosen"] : List Str).zip vs) := by
  intro vs h
  obtain ⟨a, b, rfl⟩ := len2 h
  kernel_rfl
theorem fmod2 (s : Int) : s.fmod 2 = 0 ∨ s.fmod 2 = 1 := by rw [Int.fmod_eq_emod_of_nonneg _ (by decide)]; omega
theorem fn_col {G : G0} (g : GN G) {ps es ch} (w : Wf ps es) (hl : ch.length + 3 = ps.length) : Fn G 158 9 [endsA es, intsA ch] (.int (colours es ch)) := by
  have l0 := w.l0
  refine Fn.mk g.toOk (sc := ?sc) (fd := fdAt G.w.params 158) (body := bodyAt G.w.params 158) ["ends", "chosen"] ?hsc (g.get (by rfl : (fr.heap_1 G.w.params).lookup 158 = some (objAt G.w.params 158))) rfl
    ⟨157, _, _, _, rfl, g.get rfl, rfl, rfl⟩ rfl rfl rfl rfl ?hnd (by decide) rfl (bind_col _) ?hk ?main
  case hsc => conv => lhs; whnf
  case hnd => exact of_decide_eq_true (by rfl)
  case hk =>
    simp only [List.mem_cons, or_false, forall_eq_or_imp, forall_eq, List.not_mem_nil]
    exact ⟨.inl rfl, .inl rfl⟩
  case main =>
  intro nd A s0 L rm W
  conv => arg 3; whnf
  have k77 : keepIn G.K (.ref 77) = true := by rw [g.K]; rfl
  have k70 : keepIn G.K (.ref 70) = true := by rw [g.K]; rfl
  refine Tri.asgL W (xs := ([0, 0, 0] ++ ch).map .int) (EvF.addL (xs := [.int 0, .int 0, .int 0]) (ys := ch.map .int) (EvE.list (.cons .int (.cons .int (.cons .int .nil)))) (nL W) rfl (map_all _) (by simp; omega)) (map_all _) (.inl rfl) fun a => ?_
  refine Tri.for W (n := 3) (bs := fun i => [(("point" : Str), AV.int (nth [3, 2, 1] (i : Nat)))]) (Tg := fun env own P' => Kd env own "point")
    (σs := fun i => [(("flow" : Str), .raw (.ref a)), (("ends" : Str), endsA es), (("chosen" : Str), intsA ch)])
    (βs := fun i => [Item.list a (((cSt es ch i).getD []).map .int)]) (fun i => ∃ fl, cSt es ch i = some fl) ?_ (fun P' F => .inl rfl) rfl ?_ ⟨_, rfl⟩ ?_ (fun i _ => rfl) (fun ho => ?_)
  · refine EvG.nm (EvI.tuple (xs := [.int 3, .int 2, .int 1]) (EvE.tuple (.cons .int (.cons .int (.cons .int .nil)))) (by decide)) rfl (fun i => AV.int (nth [3, 2, 1] (i : Nat))) ?_
    intro i hi
    match i, hi with
    | 0, _ => rfl
    | 1, _ => rfl
    | 2, _ => rfl
  · simp only [List.mem_cons, or_false, forall_eq_or_imp, forall_eq, List.not_mem_nil]
    exact ⟨rfl, rfl, rfl⟩
  · intro i it hi ⟨fl, hfl⟩
    have hpt : 1 ≤ nth [3, 2, 1] (i : Nat) ∧ nth [3, 2, 1] (i : Nat) ≤ 3 := by
      match i, hi with
      | 0, _ => decide
      | 1, _ => decide
      | 2, _ => decide
    have hsu : cSt es ch (i + 1) = (if cHue es fl (nth [3, 2, 1] (i : Nat)) == 0 then none else some (cFl es fl (nth [3, 2, 1] (i : Nat)))) := by
      conv => lhs; unfold cSt
      rw [hfl]
    have hlen : fl.length = ps.length := by rw [cSt_len hfl]; omega
    have e1 : ((cSt es ch i).getD []) = fl := by rw [hfl]; rfl
    rw [e1]
    have l1 := w.l1
    have le := w.le
    generalize nth [3, 2, 1] (i : Nat) = pt at *
    have we := w.en pt (by omega) (by omega)
    have pa := parH_01 (nthL es pt) fl 1
    have pb := parH_01 (nthL es pt) fl 2
    have pc := parH_01 (nthL es pt) fl 3
    have hmap : (cFl es fl pt).map AV.int = (fl.map AV.int).set (pt - 1).toNat (.int (cHue es fl pt)) := by unfold cFl; rw [List.map_set]
    have hpaint : (paintF (nthL es pt) fl).map AV.flt = [.flt (pt4 (parH (nthL es pt) fl 1)), .flt (pt4 (parH (nthL es pt) fl 2)), .flt (pt4 (parH (nthL es pt) fl 3))] := rfl
    have hcH : cHue es fl pt = oddOne (parH (nthL es pt) fl 1) (parH (nthL es pt) fl 2) (parH (nthL es pt) fl 3) := rfl
    refine Tri.asgF W (r := .list ((paintF (nthL es pt) fl).map .flt)) (EvF.call (f := 151) (rs := [intsA (nthL es pt), intsA fl]) (EvE.name (Has.global rfl (g.glob rfl))) (g.get (by rfl : (fr.heap_1 G.w.params).lookup 151 = some (objAt G.w.params 151))) (fd := fdAt G.w.params 151) rfl
      (.cons (EvE.sub (nL W) (nL W) (OpR.itemL (by omega) (by omega) (endsA_get (by omega) (by omega)))) (.cons (EvE.name (Has.box W (Has.loc rfl rfl) (.tail _ (.head _)))) .nil)) (fn_paint g 7 (by have := we.1; omega) (by omega) (fun i hi => by have := we.2 i hi; omega)) rm) (.inl rfl) ?_
    rw [hpaint]
    rw [hcH] at hsu hmap
    generalize parH (nthL es pt) fl 1 = x1 at *
    generalize parH (nthL es pt) fl 2 = x2 at *
    generalize parH (nthL es pt) fl 3 = x3 at *
    obtain ⟨odd, hodd⟩ : ∃ odd, odd = (pt.fmod 2 != 0) := ⟨_, rfl⟩
    have chk := chkC_ok odd pa pb pc
    unfold chkC at chk
    simp only [Bool.and_eq_true, beq_iff_eq] at chk
    obtain ⟨⟨⟨⟨⟨c1, c2⟩, c3⟩, c4⟩, c5⟩, -⟩ := chk
    have nz2 : feq (f1 (cT odd x1 x2 x3)) (t1F odd) = feq (f1 (cT odd x1 x2 x3)) (if odd then fracI 2 3 else fracI 1 2) := rfl
    refine Tri.asgF W (r := .tup ((cT odd x1 x2 x3).map .flt)) (EvF.ifexp (x := odd) (hodd ▸ EvT.plain (EvE.bin (nL W) .int (.fmod (by decide) (by decide))) TrR.int)
      (fun e => by rw [e]; exact EvF.star (EvE.name (Has.global rfl (g.glob rfl))) k77 (nL W) (by simp) (fn_hsv4 g 7 pa pb pc) rm)
      (fun e => by rw [e]; exact EvF.star (EvE.name (Has.global rfl (g.glob rfl))) k70 (nL W) (by simp) (fn_hls4 g 7 pa pb pc) rm)) (.inl rfl) ?_
    have hsh : (cT odd x1 x2 x3).map AV.flt = [.flt (f0 (cT odd x1 x2 x3)), .flt (f1 (cT odd x1 x2 x3)), .flt (f2 (cT odd x1 x2 x3))] := by
      conv => lhs; rw [cT_shape]
      rfl
    rw [hsh]
    generalize f0 (cT odd x1 x2 x3) = y0 at *
    generalize f1 (cT odd x1 x2 x3) = y1 at *
    generalize f2 (cT odd x1 x2 x3) = y2 at *
    refine Tri.if W (x := oddOne x1 x2 x3 == 0) ?_ (fun hx => ?_) (fun hx => ?_)
    · rw [← c1]
      refine EvT.nePair (a' := t1F odd) (b' := t2F odd) (fun s hs => g.toGK.booked (FS.glob W hs)) (EvE.tupFrom (n := 1) (xs := [.flt y0, .flt y1, .flt y2]) (nL W) (by simp) (by simp) (by simp)) (EvNP.ifexp (hodd ▸ EvT.plain (EvE.bin (nL W) .int (.fmod (by decide) (by decide))) TrR.int) (EvNP.div (by decide) (by decide) (by decide +kernel) (by decide +kernel)) (EvNP.div (by decide) (by decide) (by decide +kernel) (by decide +kernel))) ?_ ?_
      · intro e
        subst e
        simpa using c2
      · intro e
        subst e
        simpa using c3
    · refine Tri.ret W (r := .int 0) .int fun s v h y => ⟨v, rfl, h.toExt W, ?_⟩
      have : colours es ch = 0 := by
        have h1 : cSt es ch (i + 1) = none := by rw [hsu, hx]; rfl
        have h3 := cSt_none (2 - i) h1
        have : i + 1 + (2 - i) = 3 := by omega
        rw [this] at h3
        unfold colours
        rw [h3]
      rw [this]
      exact y.atom rfl
    · obtain ⟨sg, m, e, hd, htr⟩ := isFin_ok c4
      have hh : hueI (truI (m12 y0)) = oddOne x1 x2 x3 := by
        rw [Bool.or_eq_true] at c5
        rcases c5 with c5 | c5
        · rw [hx] at c5; cases c5
        · exact eq_of_beq c5
      refine Tri.back (Tri.asgA W (r := .int (sixI (truI (m12 y0)))) (EvE.bin (EvE.bin (EvE.call (f := .type "int") (EvE.name (Has.builtin rfl (g.glob rfl) rfl)) .type (.cons (EvE.bin (EvE.sub (nL W) .int (OpR.itemT (by decide) (by decide) rfl)) .int (.mulFI ?_)) .nil) (htr ▸ CaR.intF hd)) .int .add) .int (.fdiv (by decide) (by decide))) rfl (.inl rfl) ?_)
      · decide +kernel
      have hs2 := fmod2 (sixI (truI (m12 y0)))
      refine Tri.setL W (l := [it]) (r := []) (a := a) (xs := fl.map .int) (n := pt - 1) (y := .int (hueI (truI (m12 y0)))) (EvE.bin (EvE.bin (EvE.bin (EvE.bin (nL W) (EvE.bin (EvE.bin (nL W) .int (.fmod (by decide) (by decide))) .int (.mul (.of_right (by decide +kernel)))) .add) .int (.fmod (by decide) (by decide))) .int (.fdiv (by decide) (by decide))) .int .add) rfl nS (EvE.bin (nL W) .int .sub) (by omega) (by rw [List.length_map]; omega) (by rw [List.length_map]; omega) ?_
      rw [hh, ← hmap]
      refine Tri.nil fun s h => ?_
      have h1 : cSt es ch (i + 1) = some (cFl es fl pt) := by rw [hsu, hx]; rfl
      refine ⟨⟨_, h1⟩, ?_⟩
      rw [h1]
      refine FS.sub h ?_
      simp only [List.mem_cons, or_false, forall_eq_or_imp, forall_eq, List.not_mem_nil]
      exact ⟨rfl, rfl, rfl⟩
  · obtain ⟨fl, hfl⟩ := ho
    have hlen : fl.length = ps.length := by rw [cSt_len hfl]; omega
    have e1 : ((cSt es ch 3).getD []) = fl := by rw [hfl]; rfl
    rw [e1]
    have le := w.le
    have we := w.en 0 (by omega) (by omega)
    have pa := parH_01 (nthL es 0) fl 1
    have pb := parH_01 (nthL es 0) fl 2
    have pc := parH_01 (nthL es 0) fl 3
    have hpaint : (paintF (nthL es 0) fl).map AV.flt = [.flt (pt4 (parH (nthL es 0) fl 1)), .flt (pt4 (parH (nthL es 0) fl 2)), .flt (pt4 (parH (nthL es 0) fl 3))] := rfl
    have hcH : cHue es fl 0 = oddOne (parH (nthL es 0) fl 1) (parH (nthL es 0) fl 2) (parH (nthL es 0) fl 3) := rfl
    refine Tri.back (Tri.ret W (r := .int (colours es ch)) ?_ fun s v h y => ⟨v, rfl, h.toExt W, y.atom rfl⟩)
    have hq : colours es ch = if cHue es fl 0 == 0 then 1 else 0 := by unfold colours; rw [hfl]
    rw [hq, hcH]
    have f151 : Fn G 151 8 [intsA (nthL es 0), intsA fl] (.list [.flt (pt4 (parH (nthL es 0) fl 1)), .flt (pt4 (parH (nthL es 0) fl 2)), .flt (pt4 (parH (nthL es 0) fl 3))]) := fn_paint g 7 (by have := we.1; omega) (by omega) (fun i hi => by have := we.2 i hi; omega)
    generalize parH (nthL es 0) fl 1 = x1 at *
    generalize parH (nthL es 0) fl 2 = x2 at *
    generalize parH (nthL es 0) fl 3 = x3 at *
    have chk := chkC_ok true pa pb pc
    unfold chkC at chk
    simp only [Bool.and_eq_true, beq_iff_eq] at chk
    rw [← chk.2]
    have hsh : (cT true x1 x2 x3).map AV.flt = [.flt (f0 (cT true x1 x2 x3)), .flt (f1 (cT true x1 x2 x3)), .flt (f2 (cT true x1 x2 x3))] := by
      conv => lhs; rw [cT_shape]
      rfl
    have f77 := fn_hsv4 g 7 pa pb pc
    rw [hsh] at f77
    exact EvE.call (f := .type "int") (EvE.name (Has.builtin rfl (g.glob rfl) rfl)) .type (.cons (EvE.cmp (EvE.sub (EvF.ev (EvF.star (EvE.name (Has.global rfl (g.glob rfl))) k77 (EvF.ev (EvF.call (f := 151) (rs := [intsA (nthL es 0), intsA fl]) (EvE.name (Has.global rfl (g.glob rfl))) (g.get (by rfl : (fr.heap_1 G.w.params).lookup 151 = some (objAt G.w.params 151))) (fd := fdAt G.w.params 151) rfl
      (.cons (EvE.sub (nL W) .int (OpR.itemL (by omega) (by omega) (endsA_get (i := 0) (by omega) (by omega)))) (.cons (EvE.name (Has.box W (Has.loc rfl rfl) (.head _))) .nil)) f151 rm)) (by simp) f77 rm)) .int (OpR.itemT (by decide) (by decide) rfl)) .int .eqFI) .nil) CaR.intB
section
variable {c : Cx}
theorem CaR.hex {i : Int} (h : i.natAbs ≤ 1000) : CaR c (.builtin "hex") [.int i] (.str (baseText "0x" 16 i)) := by
  intro o s vs hs y Q E k
  replace y := VRs.consI y
  obtain ⟨_, _, rfl, y1, y2⟩ := y
  ·
    (first | ((first | replace y2 := VR.intI y2 | replace y2 := VR.strI y2); obtain ⟨_, rfl⟩ := y2) | ((first | replace y2 := VR.rawI y2 | replace y2 := VRs.nilI y2 | replace y2 := VR.boolI y2 | replace y2 := VR.noneI y2); subst y2) | cases y2); (first | ((first | replace y1 := VR.intI y1 | replace y1 := VR.strI y1); obtain ⟨_, rfl⟩ := y1) | ((first | replace y1 := VR.rawI y1 | replace y1 := VRs.nilI y1 | replace y1 := VR.boolI y1 | replace y1 := VR.noneI y1); subst y1) | cases y1)
    exact P.hex_of_int (k _ _ .tok .str) (Nat.le_trans (Nat.le_trans (fact_hex i).2 (Nat.add_le_add_right h 4)) (by decide))
theorem strs_of {h : Heap} {τ : Nat} {P : Addr → Prop} : ∀ {texts : List Str} {vs : List Value}, VRs h τ P (texts.map .str) vs → ∃ l : List (Str × Tok), vs = strValues l ∧ l.map (·.1) = texts
  | [], _, .nil => ⟨[], rfl, rfl⟩
  | x :: xs, _, .cons (v := v) a t => by
    obtain ⟨l, e1, e2⟩ := strs_of t
    cases a with
    | @str _ u => exact ⟨(x, u) :: l, by rw [e1]; rfl, by rw [← e2]; rfl⟩
theorem CaR.join {x : Str} {texts : List Str} (hok : JoinOk x texts = true) : CaR c (.builtin "str.join") [.str x, .list (texts.map .str)] (.str (Txt.join x texts)) := by
  intro o s vs hs y Q E k
  replace y := VRs.consI y
  obtain ⟨_, _, rfl, y1, y2⟩ := y
  ·
    (first | ((first | replace y1 := VR.intI y1 | replace y1 := VR.strI y1); obtain ⟨_, rfl⟩ := y1) | ((first | replace y1 := VR.rawI y1 | replace y1 := VRs.nilI y1 | replace y1 := VR.boolI y1 | replace y1 := VR.noneI y1); subst y1) | cases y1)
    replace y2 := VRs.consI y2
    obtain ⟨_, _, rfl, y2, y3⟩ := y2
    ·
      (first | ((first | replace y3 := VR.intI y3 | replace y3 := VR.strI y3); obtain ⟨_, rfl⟩ := y3) | ((first | replace y3 := VR.rawI y3 | replace y3 := VRs.nilI y3 | replace y3 := VR.boolI y3 | replace y3 := VR.noneI y3); subst y3) | cases y3)
      replace y2 := VR.listI y2
      obtain ⟨a, ws, rfl, pa, hl, hv⟩ := y2
      ·
        obtain ⟨l, e1, e2⟩ := strs_of hv
        subst e1
        refine wpAny_mono (wpAny_with_toks (Nat.le_refl s.toks) (SC.join (Q := fun v s' => s.toks ≤ s'.toks → Q v s') hl e2 hok fun t' tk hle => ?_)) (fun _ _ h => h) fun _ _ h => h
        exact k _ _ (Ext.tok (tk := tk) (le := hle)) .str
theorem MeR.join {x : Str} : MeR c (.str x) "join" "str.join" := fun ok s v E hs y pl Q q => by
  (first | ((first | replace y := VR.intI y | replace y := VR.strI y); obtain ⟨_, rfl⟩ := y) | ((first | replace y := VR.rawI y | replace y := VRs.nilI y | replace y := VR.boolI y | replace y := VR.noneI y); subst y) | cases y); exact GM.join q
end
theorem Glob.map {G : G0} (g : GK G) {s : Shared} {P : Addr → Prop} (h : Glob G P s) : s.heap.MapOf (intKind G.prog G.w) 78 (fun k => findBy (intKind G.prog G.w).is (#[⟨1, .int 1 317, .str "OPTIMIZED" 318⟩, ⟨2, .int 2 319, .str "NEWLOCALS" 320⟩, ⟨4, .int 4 321, .str "VARARGS" 322⟩, ⟨8, .int 8 323, .str "VARKEYWORDS" 324⟩, ⟨16, .int 16 325, .str "NESTED" 326⟩, ⟨32, .int 32 327, .str "GENERATOR" 328⟩, ⟨64, .int 64 329, .str "NOFREE" 330⟩, ⟨128, .int 128 331, .str "COROUTINE" 332⟩, ⟨256, .int 256 333, .str "ITERABLE_COROUTINE" 334⟩, ⟨512, .int 512 335, .str "ASYNC_GENERATOR" 336⟩] : Array DictEntry) k) := by
  refine ⟨_, _, 10, h.keep _ _ (g.get (by rfl : (fr.heap_1 G.w.params).lookup 78 = some (objAt G.w.params 78))), ⟨rfl, rfl, rfl⟩, rfl, ?_, fun k => rfl⟩
  intro e he
  simp only [List.mem_toArray, List.mem_cons, List.not_mem_nil, or_false, Array.mem_def] at he
  rcases he with rfl | rfl | rfl | rfl | rfl | rfl | rfl | rfl | rfl | rfl
  · exact ⟨1, by simp [intKind, Value.isInt], by simp only [intKind]; decide +kernel⟩
  · exact ⟨2, by simp [intKind, Value.isInt], by simp only [intKind]; decide +kernel⟩
  · exact ⟨4, by simp [intKind, Value.isInt], by simp only [intKind]; decide +kernel⟩
  · exact ⟨8, by simp [intKind, Value.isInt], by simp only [intKind]; decide +kernel⟩
  · exact ⟨16, by simp [intKind, Value.isInt], by simp only [intKind]; decide +kernel⟩
  · exact ⟨32, by simp [intKind, Value.isInt], by simp only [intKind]; decide +kernel⟩
  · exact ⟨64, by simp [intKind, Value.isInt], by simp only [intKind]; decide +kernel⟩
  · exact ⟨128, by simp [intKind, Value.isInt], by simp only [intKind]; decide +kernel⟩
  · exact ⟨256, by simp [intKind, Value.isInt], by simp only [intKind]; decide +kernel⟩
  · exact ⟨512, by simp [intKind, Value.isInt], by simp only [intKind]; decide +kernel⟩
noncomputable def flagNames : List Str := ["OPTIMIZED", "NEWLOCALS", "VARARGS", "VARKEYWORDS", "NESTED", "GENERATOR"]
noncomputable def flagName (i : Nat) : Str := flagNames.getD i ""
theorem CaR.flag {G : G0} (g : GK G) (hc : c.G = G) {i : Nat} (hi : i < 6) {d : Str} : CaR c (.builtin "dict.get") [.raw (.ref 78), .int (2 ^ i), .str d] (.str (flagName i)) := by
  intro o s vs hs y Q E k
  subst hc
  replace y := VRs.consI y
  obtain ⟨_, _, rfl, y1, y2⟩ := y
  ·
    (first | ((first | replace y1 := VR.intI y1 | replace y1 := VR.strI y1); obtain ⟨_, rfl⟩ := y1) | ((first | replace y1 := VR.rawI y1 | replace y1 := VRs.nilI y1 | replace y1 := VR.boolI y1 | replace y1 := VR.noneI y1); subst y1) | cases y1)
    replace y2 := VRs.consI y2
    obtain ⟨_, _, rfl, y2, y3⟩ := y2
    ·
      (first | ((first | replace y2 := VR.intI y2 | replace y2 := VR.strI y2); obtain ⟨_, rfl⟩ := y2) | ((first | replace y2 := VR.rawI y2 | replace y2 := VRs.nilI y2 | replace y2 := VR.boolI y2 | replace y2 := VR.noneI y2); subst y2) | cases y2)
      replace y3 := VRs.consI y3
      obtain ⟨_, _, rfl, y3, y4⟩ := y3
      ·
        (first | ((first | replace y3 := VR.intI y3 | replace y3 := VR.strI y3); obtain ⟨_, rfl⟩ := y3) | ((first | replace y3 := VR.rawI y3 | replace y3 := VRs.nilI y3 | replace y3 := VR.boolI y3 | replace y3 := VR.noneI y3); subst y3) | cases y3); (first | ((first | replace y4 := VR.intI y4 | replace y4 := VR.strI y4); obtain ⟨_, rfl⟩ := y4) | ((first | replace y4 := VR.rawI y4 | replace y4 := VRs.nilI y4 | replace y4 := VR.boolI y4 | replace y4 := VR.noneI y4); subst y4) | cases y4)
        rename_i u1 u2
        have M := (o.glob s hs).map g
        have hT : s.TypeIs (.ref 78) "dict" := let ⟨ob, _, _, e, hc, _⟩ := M; ⟨ob, e, hc.1⟩
        refine call_meetsIn PySem.F.slot_dict_get hT PySem.F.entry_dict_get (PySem.F.args_dict_get_3 _ _ _) (meets_dict_get_default (intKind c.G.prog c.G.w) (k := 2 ^ i) 78 (by simp [intKind, Value.isInt]) (by decide) _) ⟨_, M, ?_⟩
        match i, hi with
        | 0, _ => exact k _ _ .tok .str
        | 1, _ => exact k _ _ .tok .str
        | 2, _ => exact k _ _ .tok .str
        | 3, _ => exact k _ _ .tok .str
        | 4, _ => exact k _ _ .tok .str
        | 5, _ => exact k _ _ .tok .str
theorem MeR.flag {G : G0} (g : GK G) (hc : c.G = G) : MeR c (.raw (.ref 78)) "get" "dict.get" := fun ok s v E hs y pl Q q => by
  subst hc
  (first | ((first | replace y := VR.intI y | replace y := VR.strI y); obtain ⟨_, rfl⟩ := y) | ((first | replace y := VR.rawI y | replace y := VRs.nilI y | replace y := VR.boolI y | replace y := VR.noneI y); subst y) | cases y)
  have M := (ok.glob s hs).map g
  have hT : s.TypeIs (.ref 78) "dict" := let ⟨ob, _, _, e, hc, _⟩ := M; ⟨ob, e, hc.1⟩
  exact getMethod_builtin hT PySem.F.plainAttrs_dict PySem.F.slot_dict_get PySem.F.type_dict_get (fun b e => by injection e with e; subst e; exact let ⟨ob, _, _, e, hc, _⟩ := M; ⟨ob, e, hc.2.1⟩) q
theorem Tri.brk {fc : FC} {Pre : Shared → Prop} {rest : List Stmt} {Post : Flow → Shared → Prop} {pos : Pos} (k : ∀ s, Pre s → Post .brk s) : Tri fc Pre (.Break pos :: rest) Post := Tri.st fun E s hs => by
  rw [arm_exec_Break]
  exact wpAny_bind (wpAny_standAt (wpAny_pure (k s hs)))
theorem Tri.cont {fc : FC} {Pre : Shared → Prop} {rest : List Stmt} {Post : Flow → Shared → Prop} {pos : Pos} (k : ∀ s, Pre s → Post .cont s) : Tri fc Pre (.Continue pos :: rest) Post := Tri.st fun E s hs => by
  rw [arm_exec_Continue]
  exact wpAny_bind (wpAny_standAt (wpAny_pure (k s hs)))
noncomputable def flL (m i : Nat) : Int := ((m >>> i <<< i : Nat) : Int)
noncomputable def bitsTo (m i : Nat) : List Nat := (List.range i).filter m.testBit
noncomputable def namesTo (m i : Nat) : List Str := (bitsTo m i).map flagName
noncomputable def prettyS (m : Nat) : Str := Txt.join ", " (namesTo m 6)
noncomputable def chkF (m i : Nat) : Bool :=
  ((Builtin.bitAnd (flL m i) (1 * 2 ^ i) != 0) == m.testBit i) && (!m.testBit i || Builtin.bitXor (flL m i) (1 * 2 ^ i) == flL m (i + 1)) && (m.testBit i || flL m (i + 1) == flL m i)
    && (flL m (i + 1) == 0 || decide (i + 1 < 6)) && (flL m (i + 1) != 0 || bitsTo m (i + 1) == bitsTo m 6) && (m == 0 || flL m 0 != 0) && (flL m 0 == m)
theorem chkF_all : ((List.range 64).all fun m => (List.range 6).all fun i => chkF m i) = true := by decide +kernel
theorem chkF_ok {m i : Nat} (hm : m < 64) (hi : i < 6) : chkF m i = true := by
  have h := chkF_all
  simp only [List.all_eq_true, List.mem_range] at h
  exact h m hm i hi
theorem joinF_all : ((List.range 64).all fun m => JoinOk ", " (namesTo m 6)) = true := by decide +kernel
theorem namesTo_succ (m i : Nat) : namesTo m (i + 1) = namesTo m i ++ (if m.testBit i then [flagName i] else []) := by
  unfold namesTo bitsTo
  rw [List.range_succ, List.filter_append, List.map_append]
  cases h : m.testBit i <;> simp [h]
theorem bind_pf (P : Params) : ∀ vs : List Value, vs.length = 1 → bindArgs (fdAt P 85) ⟨vs, []⟩ = pure ((["flags"] : List Str).zip vs) := by
  intro vs h
  obtain ⟨a, rfl⟩ := len1 h
  kernel_rfl
theorem map_allS (l : List Str) : (l.map AV.str).all AV.atom = true := by simp [List.all_eq_true, AV.atom]
set_option maxHeartbeats 4000000 in
theorem fn_pretty {G : G0} (g : GN G) (k : Nat) {m : Nat} (h1 : 1 ≤ m) (h2 : m < 64) : Fn G 85 (k + 1) [.int m] (.str (prettyS m)) := by
  refine Fn.mk g.toOk (sc := ?sc) (fd := fdAt G.w.params 85) (body := bodyAt G.w.params 85) ["flags"] ?hsc (g.get (by rfl : (fr.heap_1 G.w.params).lookup 85 = some (objAt G.w.params 85))) rfl
    ⟨84, _, _, _, rfl, g.get rfl, rfl, rfl⟩ rfl rfl rfl rfl ?hnd (by decide) rfl (bind_pf _) ?hk ?main
  case hsc => conv => lhs; whnf
  case hnd => exact of_decide_eq_true (by rfl)
  case hk =>
    simp only [List.mem_cons, or_false, forall_eq_or_imp, forall_eq, List.not_mem_nil]
    exact .inl rfl
  case main =>
  intro nd A s0 L rm W
  conv => arg 3; whnf
  refine Tri.asgP W (xs := []) (EvP.list .nil (by simp)) (.inl rfl) fun a => ?_
  have m0 : flL m 0 = m := by
    have := chkF_ok h2 (i := 0) (by decide)
    unfold chkF at this
    simp only [Bool.and_eq_true, beq_iff_eq] at this
    exact this.2
  have jok : JoinOk ", " (namesTo m 6) = true := by
    have := joinF_all
    simp only [List.all_eq_true, List.mem_range] at this
    exact this m h2
  refine Tri.for W (n := 32) (bs := fun i => [(("i" : Str), AV.int (i : Nat))]) (Tg := fun env own P' => Kd env own "i")
    (σs := fun i => [(("flags" : Str), .int (flL m i)), (("names" : Str), .raw (.ref a))])
    (βs := fun i => [Item.plist a ((namesTo m i).map .str)]) (fun i => i < 6 ∧ flL m i ≠ 0) ?_ (fun P' F => .inl rfl) rfl ?_ ⟨by decide, by rw [m0]; omega⟩ ?_ (fun i _ => rfl) (fun ho => ?_)
  · refine EvG.nm (EvI.range (n := 32) (EvE.name (Has.builtin rfl (g.glob rfl) rfl)) .int (by decide)) (by simp) (fun i => AV.int (i : Nat)) ?_
    intro i hi
    rw [List.getElem?_map, List.getElem?_range hi]; rfl
  · simp only [List.mem_cons, or_false, forall_eq_or_imp, forall_eq, List.not_mem_nil]
    rw [m0]
    exact ⟨rfl, rfl⟩
  · intro i it hi ⟨hi6, hne⟩
    have chk := chkF_ok h2 hi6
    unfold chkF at chk
    simp only [Bool.and_eq_true, beq_iff_eq] at chk
    obtain ⟨⟨⟨⟨⟨⟨c1, c2⟩, c3⟩, c4⟩, c5⟩, -⟩, -⟩ := chk
    have hns := namesTo_succ m i
    refine Tri.asgA W (r := .int (1 * 2 ^ i)) (EvE.bin .int (nL W) (.shl (b := (i : Int)) (by omega) (by omega) (by decide))) rfl (.inl rfl) ?_
    refine Tri.if W (x := m.testBit i) (c1 ▸ EvT.plain (EvE.bin (nL W) (nL W) .band) TrR.int) (fun hx => ?_) (fun hx => ?_)
    · rw [hx] at c2 hns
      have c2' : Builtin.bitXor (flL m i) (1 * 2 ^ i) = flL m (i + 1) := by simpa using c2
      have e2 : (1 * 2 ^ i : Int) = 2 ^ i := by omega
      have hlt : (2 : Nat) ^ i ≤ 32 := by
        calc (2 : Nat) ^ i ≤ 2 ^ 5 := Nat.pow_le_pow_right (by decide) (by omega)
          _ = 32 := by decide
      have hnat : ((1 : Int) * 2 ^ i).natAbs ≤ 1000 := by
        rw [e2, Int.natAbs_pow]
        exact Nat.le_trans hlt (by decide)
      refine Tri.append W (l := [it]) (r := []) (a := a) (xs := (namesTo m i).map .str) (y := .str (flagName i)) nS
        (EvE.meth (r := .raw (.ref 78)) (id := "dict.get") (EvE.name (Has.global rfl (g.glob rfl))) (MeR.flag g.toGK rfl) (.cons nS (.cons (EvE.call (f := .builtin "hex") (EvE.name (Has.builtin rfl (g.glob rfl) rfl)) .builtin (.cons nS .nil) (CaR.hex hnat)) .nil)) (e2 ▸ CaR.flag g.toGK rfl hi6)) ?_ ?_
      · rw [List.length_map]
        have : (namesTo m i).length ≤ i := by
          unfold namesTo bitsTo
          rw [List.length_map]
          exact Nat.le_trans (List.length_filter_le _ _) (by simp)
        omega
      have e3 : (namesTo m i).map AV.str ++ [.str (flagName i)] = (namesTo m (i + 1)).map .str := by rw [hns]; simp
      rw [e3]
      refine Tri.aug W (r1 := .int (flL m i)) (r := .int (flL m (i + 1))) ((Has.loc rfl rfl).big W) (nL W) (c2' ▸ OpR.ixor) rfl (.inl rfl) ?_
      refine Tri.if W (x := !(flL m (i + 1) != 0)) (EvT.not (EvT.plain (nL W) TrR.int)) (fun hz => ?_) (fun hz => ?_)
      · have hz' : flL m (i + 1) = 0 := by simpa using hz
        refine Tri.brk fun s h E => ?_
        have e6 : namesTo m (i + 1) = namesTo m 6 := by
          unfold namesTo
          rw [hz'] at c5
          simp at c5
          rw [c5]
        rw [e6] at h
        exact (Tri.ret W (r := .str (prettyS m)) (EvE.meth .str MeR.join (.cons (EvE.name (Has.boxP W (Has.loc rfl rfl) (.tail _ (.head _)))) .nil) (CaR.join jok)) fun s v h y => ⟨v, rfl, h.toExt W, y.atom rfl⟩) E s h
      · have hz' : flL m (i + 1) ≠ 0 := by simpa using hz
        refine Tri.back (Tri.back (Tri.nil fun s h => ⟨⟨?_, hz'⟩, FS.sub h ?_⟩))
        · simpa [hz'] using c4
        · simp only [List.mem_cons, or_false, forall_eq_or_imp, forall_eq, List.not_mem_nil]
          exact ⟨rfl, rfl⟩
    · rw [hx] at c3 hns
      have c3' : flL m (i + 1) = flL m i := by simpa using c3
      simp only [Bool.false_eq_true, if_false, List.append_nil] at hns
      refine Tri.back (Tri.nil fun s h => ⟨⟨?_, by rw [c3']; exact hne⟩, ?_⟩)
      · rw [c3'] at c4
        simpa [hne] using c4
      · rw [hns, c3']
        refine FS.sub h ?_
        simp only [List.mem_cons, or_false, forall_eq_or_imp, forall_eq, List.not_mem_nil]
        exact ⟨rfl, rfl⟩
  · exact absurd ho.1 (by decide)
theorem raise_cls {prog : Program} {w : World} {A : Around} {E : Value → Shared → Prop} {s : Shared} {env : Env} {X N I : String} (hc : ExcClass X N I) (FC : ExcCallFacts X N I) (hself : isSubtype (.type X) (.type X) = pure true) {x : Str} {np pos : Pos} {Q : Flow → Shared → Prop} (hh : A.handled = none)
    (hx : wpAny (model prog w) A (eval (.Name x np) env) (fun v s₁ => v = .type X ∧ s₁ = s) E s)
    (h : ∀ h' e, Heap.MadeExc s.heap h' e X [] → E (.ref e) { s with heap := h' }) : wpAny (model prog w) A (exec (.Raise (some (.Name x np)) none pos) env) Q E s := by
  show wpAny (model prog w) A (do standAt pos; raiseStmt env (some (do let v ← eval (.Name x np) env; standAt pos; pure v)) none) Q E s
  refine wpAny_bind (wpAny_standAt ?_)
  unfold raiseStmt
  dsimp only
  refine wpAny_bind (wpAny_bind (wpAny_mono hx (fun v s₁ h₁ => wpAny_bind (wpAny_standAt (wpAny_pure ?_))) fun _ _ e => e))
  obtain ⟨rfl, hs₁⟩ := h₁
  subst s₁
  refine wpAny_bind (wpAny_pure ?_)
  dsimp only
  refine wpAny_bind (wpAny_holding ?_)
  unfold excFromValue isExcClass
  refine wpAny_bind (wpAny_bind (wpAny_pure ?_))
  simp only [if_true]
  rw [hc.base]
  refine wpAny_pure ?_
  simp only [if_true]
  obtain ⟨hp, gg, d, tk, os⟩ := s
  refine wpAny_bind (wpAny_call_exc FC fun h' e hn => ?_)
  obtain ⟨t, he, ht⟩ := hn.there
  have hT : (⟨h', gg, d, tk, os⟩ : Shared).TypeIs (.ref e) X := ⟨_, he, rfl⟩
  refine wpAny_bind (wpAny_isInstance hT hc.base ?_)
  simp only [Bool.not_true, Bool.false_eq_true, if_false]
  refine wpAny_pure ?_
  first | (refine wpAny_bind (m := isType (.type X)) (wpAny_pure ?_)) | (refine wpAny_bind (wpAny_pure ?_))
  first | (rw [if_pos rfl]) | (simp only [if_true]) | dsimp only
  refine wpAny_bind (wpAny_holding ?_)
  unfold raisedFor
  first | (simp only [Bool.false_eq_true, if_false]) | (rw [if_neg (by decide)]) | skip
  first | (refine wpAny_bind (wpAny_typeOf hT ?_)) | (refine wpAny_bind ?_; refine wpAny_bind (wpAny_typeOf hT ?_))
  refine wpAny_bind (call_issubclass (issubclass_self hc hself) ?_)
  first | (refine wpAny_bind (wpAny_truthy_bool ?_)) | (refine wpAny_truthy_bool ?_) | (dsimp only [wants]; first | (refine wpAny_bind (wpAny_truthy_bool ?_)) | (refine wpAny_truthy_bool ?_))
  first | (rw [if_pos rfl]) | (simp only [if_true]) | skip
  refine wpAny_pure ?_
  unfold setFlight raiseNew
  refine wpAny_bind (wpAny_bind (wpAny_field (i := 1) (x := Value.none) he rfl rfl ?_))
  rw [if_neg (by decide)]
  refine wpAny_pure (wpAny_bind (wpAny_handled ?_))
  rw [hh]
  first
    | exact wpAny_throw (h h' e hn)
    | exact wpAny_bind (wpAny_pure (wpAny_throw (h h' e hn)))
theorem call_frame0 {G : G0} (o : G.Ok) {A : Around} {f : Addr} {ob : Obj} {fd : FuncData} {body : List Stmt} {k : Nat} {rs : List AV} {vs : List Value} {s : Shared} {Q E : Value → Shared → Prop} (names : List Str) (rm : Rm A (k + 1)) (gl : Glob G NT s) (hv : VRs s.heap s.toks NT rs vs) (ho : G.g.get? f = some ob) (hd : ob.data = .func fd) (hcd : G.g.CodeRec fd.code fd.qualname)
    (hb : fd.body = .stmts body) (hg : fd.globals = mainGlobals) (hbu : fd.builtins = builtinsNs) (hcl : fd.closure = []) (hnd : (fd.scope.names.map Prod.fst).Nodup) (hnn : names.Nodup) (hl : rs.length = names.length)
    (hbind : ∀ vs, vs.length = names.length → bindArgs fd ⟨vs, []⟩ = pure (names.zip vs)) (hk : ∀ x ∈ names, fd.scope.names.lookup x = some .local ∨ fd.scope.names.lookup x = some .cell)
    (hbody : ∀ L s1, s.heap.get? L = none → (fcOf G (A.deeper (callEnvC fd L f)) fd L f).Ok → FS (fcOf G (A.deeper (callEnvC fd L f)) fd L f) s (names.zip rs) [] s1 →
      wpAny (model G.prog G.w) (A.deeper (callEnvC fd L f)) (execs body (callEnvC fd L f)) (fun fl s' => Q (match fl with | .ret v => v | _ => .none) s')
        (fun e s' => wpAny (model G.prog G.w) (A.deeper (callEnvC fd L f)) (leaving (callEnvC fd L f) e) (fun _ s'' => E e s'') (fun e' s'' => E e' s'') s') s1)
    (hco : fd.scope.isCoroutine = false := by rfl) (hgen : fd.scope.isGenerator = false := by rfl) (hsk : fd.scope.kind = .function := by rfl) : wpAny (model G.prog G.w) A (call (.ref f) vs []) Q E s := by
  have hlen : vs.length = names.length := by rw [← hv.length]; exact hl
  have T := gl.top o
  have keys : ((names.zip vs).map Prod.fst).Nodup := by rw [zip_keys hlen]; exact hnn
  refine wpAny_call (call_cells_le (binds := names.zip vs) (by have := rm.2.1; omega) (gl.keep _ _ ho) hd T.nolimit (hcd.keeps gl.keep) hb (hbind vs hlen) hcl ?_ (fun s1 X hle => ?_) hco hgen hsk)
  · intro x hx
    have hx1 : x.1 ∈ names := by
      have := List.mem_map_of_mem (f := Prod.fst) hx
      rwa [zip_keys hlen] at this
    rcases hk _ hx1 with h | h
    · exact .inl h
    · obtain ⟨a, ha⟩ := own_look (C := s.heap.objs.size) hnd h
      exact .inr ⟨h, Option.isSome_iff_exists.mpr ⟨a, ha⟩⟩
  · generalize hL : s.heap.objs.size = L at X ⊢
    obtain ⟨h1, tk, rfl, hkeep⟩ := X.done
    have hle' : s.toks ≤ tk := hle
    have newL : s.heap.get? L = none := ge_none (by rw [hL]; exact Nat.le_refl _)
    have newF : ∀ b ∈ FAd (callEnvC fd L f) (ownOf fd.scope L), s.heap.get? b = none := fun b hb' => by
      rcases List.mem_cons.mp hb' with e | hb'
      · have e' : b = L := e
        rw [e']; exact newL
      · obtain ⟨⟨x, a⟩, hm, rfl⟩ := List.mem_map.mp hb'
        refine ge_none ?_
        have h2 : @LT.lt Nat _ L a := X.above x a hm
        have h3 : @Eq Nat s.heap.objs.size L := hL
        show @LE.le Nat _ s.heap.objs.size a
        omega
    have ntF : ∀ b ∈ FAd (callEnvC fd L f) (ownOf fd.scope L), b ∉ Tb := fun b hb' q => by
      obtain ⟨ob', eo⟩ := o.tlive _ _ gl.tabs b q
      rw [newF b hb'] at eo; cases eo
    have F : FOk (callEnvC fd L f) (ownOf fd.scope L) (PF (fcOf G (A.deeper (callEnvC fd L f)) fd L f) []) := by
      refine ⟨hsk, fun x a h => h, fun p hp => lookup_pw (own_pw hnd) hp, fun x a h => own_cell hnd (mem_of_lookup h), X.apart, fun p hp e => ?_, fun b hb' => ⟨fun p => p.2 (mem_MUs.mpr (.inl hb')), ntF b hb'⟩⟩
      have h2 : @LT.lt Nat _ L p.2 := X.above p.1 p.2 hp
      have e' : @Eq Nat p.2 L := e
      omega
    have W : (fcOf G (A.deeper (callEnvC fd L f)) fd L f).Ok := ⟨o, (deeper_rm rm).le (Nat.zero_le _), F, hg, hbu, fun a h => (nomatch h)⟩
    refine hbody L _ newL W ?_
    refine ⟨Kp.of (tk := tk) hkeep, fun P fr t => ?_, fun b hb' => ?_, fun b hb' => .inr (newF b ((mem_MUs.mp hb').resolve_right (by simp))), gl, ?_, fun i hi => (nomatch hi), List.Pairwise.nil, fun i hi => (nomatch hi)⟩
    · refine o.tok _ _ _ (o.tmono P _ _ t fun a ob' p e => ⟨p, fun q => ?_⟩) fun a ob' _ e => hkeep a ob' e
      rw [newF a ((mem_MUs.mp q).resolve_right (by simp))] at e; cases e
    · rcases List.mem_cons.mp ((mem_MUs.mp hb').resolve_right (by simp)) with e | hb'
      · obtain ⟨ob', _, _, eo, _⟩ := X.toInCall.ns
        exact ⟨ob', (show b = L from e) ▸ eo⟩
      · obtain ⟨⟨x, a⟩, hm, rfl⟩ := List.mem_map.mp hb'
        obtain ⟨ob', eo, _⟩ := X.cell x a (lookup_pw (own_pw hnd) hm)
        exact ⟨ob', eo⟩
    · have val : ∀ x r, (names.zip rs).lookup x = some r → ∃ v, (x, v) ∈ names.zip vs ∧ VR h1 tk (PF (fcOf G (A.deeper (callEnvC fd L f)) fd L f) []) r v := fun x r e => by
        obtain ⟨v, e', y⟩ := zip_look hv e
        refine ⟨v, mem_of_lookup e', y.up (fun a ob' _ e => hkeep a ob' e) (fun a ob' p e => ⟨p, fun q => ?_⟩) hle'⟩
        rw [newF a ((mem_MUs.mp q).resolve_right (by simp))] at e; cases e
      refine ⟨⟨_, X.toInCall.ns, fun x r e hx => ?_⟩, fun x a e => ⟨_, X.cell x a e, fun r er => ?_⟩⟩
      · obtain ⟨v, hm, y⟩ := val x r e
        exact ⟨v, bindL_get keys hm hx, y⟩
      · obtain ⟨v, hm, y⟩ := val x r er
        refine ⟨v, bindC_get keys hm ?_, y⟩
        rw [show (callEnvC fd L f).kindOf x = some .cell from own_cell hnd (mem_of_lookup e)]
        decide
theorem call_frame {G : G0} (o : G.Ok) {A : Around} {f : Addr} {ob : Obj} {fd : FuncData} {sc : Scope} {body : List Stmt} {k : Nat} {rs : List AV} {vs : List Value} {s : Shared} {Q E : Value → Shared → Prop} (names : List Str) (hsc : fd.scope = sc) (rm : Rm A (k + 1)) (gl : Glob G NT s) (hv : VRs s.heap s.toks NT rs vs) (ho : G.g.get? f = some ob) (hd : ob.data = .func fd) (hcd : G.g.CodeRec fd.code fd.qualname)
    (hb : fd.body = .stmts body) (hg : fd.globals = mainGlobals) (hbu : fd.builtins = builtinsNs) (hcl : fd.closure = []) (hnd : (sc.names.map Prod.fst).Nodup) (hnn : names.Nodup) (hl : rs.length = names.length)
    (hbind : ∀ vs, vs.length = names.length → bindArgs fd ⟨vs, []⟩ = pure (names.zip vs)) (hk : ∀ x ∈ names, sc.names.lookup x = some .local ∨ sc.names.lookup x = some .cell)
    (hbody : ∀ L s1, s.heap.get? L = none → (fcS G (A.deeper (fcS G A fd sc L f).env) fd sc L f).Ok → FS (fcS G (A.deeper (fcS G A fd sc L f).env) fd sc L f) s (names.zip rs) [] s1 →
      wpAny (model G.prog G.w) (A.deeper (fcS G A fd sc L f).env) (execs body (fcS G A fd sc L f).env) (fun fl s' => Q (match fl with | .ret v => v | _ => .none) s')
        (fun e s' => wpAny (model G.prog G.w) (A.deeper (fcS G A fd sc L f).env) (leaving (fcS G A fd sc L f).env e) (fun _ s'' => E e s'') (fun e' s'' => E e' s'') s') s1)
    (hco : fd.scope.isCoroutine = false := by rfl) (hgen : fd.scope.isGenerator = false := by rfl) (hsk : fd.scope.kind = .function := by rfl) : wpAny (model G.prog G.w) A (call (.ref f) vs []) Q E s := by
  subst hsc
  exact call_frame0 o names rm gl hv ho hd hcd hb hg hbu hcl hnd hnn hl hbind hk hbody hco hgen hsk
noncomputable def FrOk (l : List Env) (h : Heap) : Prop := ∀ env ∈ l, env.scope.kind ≠ .module ∧ ∃ L o, env.frame = some L ∧ h.get? L = some o ∧ ∀ vs, o.data ≠ .fields vs
noncomputable def frs (l : List Env) : List Addr := l.filterMap (·.frame)
theorem FrOk.fun' {h h' : Heap} {ls : List Addr} : ∀ {l : List Env}, FrOk l h → (∀ b ∈ frs l, b ∈ ls) → h.FunFrames (hideAll h' ls) l
  | [], _, _ => trivial
  | env :: r, F, k => by
    obtain ⟨hk, L, o, hf, ho, hd⟩ := F env (.head _)
    have hm : L ∈ frs (env :: r) := List.mem_filterMap.mpr ⟨env, .head _, hf⟩
    refine ⟨hk, ⟨L, o, hf, hideAll_none _ (k L hm), ho, hd⟩, FrOk.fun' (fun e he => F e (.tail _ he)) fun b hb => k b ?_⟩
    obtain ⟨e, he, q⟩ := List.mem_filterMap.mp hb
    exact List.mem_filterMap.mpr ⟨e, .tail _ he, q⟩
theorem FrOk.keep {h h' : Heap} {l : List Env} (F : FrOk l h) (k : ∀ b o, b ∈ frs l → h.get? b = some o → h'.get? b = some o) : FrOk l h' := fun env he => by
  obtain ⟨hk, L, o, hf, ho, hd⟩ := F env he
  exact ⟨hk, L, o, hf, k L o (List.mem_filterMap.mpr ⟨env, he, hf⟩) ho, hd⟩
structure ZR (G : G0) (outer : List Env) (s s' : Shared) (e : Addr) : Prop where
  ex : ∃ L0 s2 t, s.heap.get? L0 = none ∧ Kp Tb s s2 ∧ (∀ P : Addr → Prop, (∀ a, s.heap.get? a = none → P a) → G.TO P s.heap → G.TO (fun a => P a ∧ a ≠ L0) s2.heap) ∧ (∃ h, s' = { s2 with heap := h }) ∧ s2.heap.get? e = none ∧
    Heap.FlyingW (hideAll s2.heap (L0 :: frs outer)) outer e (.type "ZeroDivisionError") (.ref t) s'.heap ∧ s'.heap.TupAt t [] ∧ s2.heap.UpToSlots s'.heap
theorem ev_builtin {M : Model} {A : Around} {E : Value → Shared → Prop} {G : G0} {s : Shared} {env : Env} {x : Str} {px : Pos} {v : Value} {Q : Value → Shared → Prop} (o : G.Ok) (gl : ∀ a ob, G.g.get? a = some ob → s.heap.get? a = some ob) (hk : env.kindOf x = some .globalImplicit) (hkind : env.scope.kind = .function) (eg : env.globals = mainGlobals) (eb : env.builtins = builtinsNs) (e : nsIn G.K mainGlobals x = some none) (hv : bootBuiltins x = some v) (q : Q v s) (hn : x ≠ "__name__" := by decide) (hd : (x == ("__debug__" : Str)) = false := by decide) :
    wpAny M A (eval (.Name x px) env) Q E s := by
  have T := o.T.keeps gl
  have X : G.K.In s.heap := fun a ob e => gl a ob (o.X a ob e)
  refine wpAny_Name ?_ hd
  rw [loadName_read hkind hk]
  exact Calls.loadGlobal_builtin (show s.heap.Ns env.globals G.mg from eg ▸ T.g) (mg_none_of X T.g e) (show s.heap.Ns env.builtins G.mb from eb ▸ T.b) ((T.builtins x hn).trans hv) q
theorem frs_push {G : G0} {A : Around} {fd : FuncData} {sc : Scope} {L f : Addr} {s s2 : Shared} {σ : List (Str × AV)} {β : List Item} {outer : List Env} (h : FS (fcS G (A.deeper (fcS G A fd sc L f).env) fd sc L f) s σ β s2) (hfr : A.frames = some outer) (hff : FrOk outer s.heap) (hnt : ∀ b ∈ frs outer, b ∉ Tb) (hL : s.heap.get? L = none) (hsk : sc.kind = .function := by rfl) :
    (A.deeper (fcS G A fd sc L f).env).frames = some ((fcS G A fd sc L f).env :: outer) ∧ FrOk ((fcS G A fd sc L f).env :: outer) s2.heap ∧ frs ((fcS G A fd sc L f).env :: outer) = L :: frs outer ∧ L ∉ frs outer := by
  refine ⟨Around.frames_deeper hfr, fun env he => ?_, rfl, fun hb => ?_⟩
  · rcases List.mem_cons.mp he with rfl | he
    · refine ⟨by show sc.kind ≠ _; rw [hsk]; decide, L, ?_⟩
      obtain ⟨m, ⟨o2, es, ep, ho2, hd2, _⟩, _⟩ := h.vars.loc
      exact ⟨o2, rfl, ho2, fun vs q => by rw [hd2] at q; cases q⟩
    · exact hff.keep (fun b o' hb e => h.kp.keep b o' (fun q => hnt b hb (by simpa [fcS] using q)) e) env he
  · obtain ⟨env, he, hf⟩ := List.mem_filterMap.mp hb
    obtain ⟨_, L', o', hf', ho', _⟩ := hff env he
    rw [hf'] at hf
    cases hf
    rw [hL] at ho'; cases ho'
theorem idm_zero {G : G0} (g : GN G) {A : Around} {s : Shared} {n : Int} {t u : Tok} {outer : List Env} {Q E : Value → Shared → Prop} (rm : Rm A 2) (gl : Glob G NT s) (hfr : A.frames = some outer) (hff : FrOk outer s.heap) (hnt : ∀ b ∈ frs outer, b ∉ Tb)
    (k : ∀ e s', ZR G outer s s' e → E (.ref e) s') : wpAny (model G.prog G.w) A (call (.ref 63) [.int n t, .int 0 u] []) Q E s := by
  refine call_frame g.toOk (k := 1) (sc := ?sc) (fd := fdAt G.w.params 63) (body := bodyAt G.w.params 63) (rs := [.int n, .int 0]) ["a", "b"] ?hsc rm gl (.cons .int (.cons .int .nil)) (g.get (by rfl : (fr.heap_1 G.w.params).lookup 63 = some (objAt G.w.params 63))) rfl
    ⟨62, _, _, _, rfl, g.get rfl, rfl, rfl⟩ rfl rfl rfl rfl ?hnd (by decide) rfl (bind_idm _) ?hk ?main
  case hsc => conv => lhs; whnf
  case hnd => exact of_decide_eq_true (by rfl)
  case hk =>
    simp only [List.mem_cons, or_false, forall_eq_or_imp, forall_eq, List.not_mem_nil]
    exact ⟨.inl rfl, .inl rfl⟩
  case main =>
  intro L s1 hL W hs1
  conv => arg 3; arg 1; whnf
  refine wpAny_execs_cons ?_
  rw [exec_If]
  refine wpAny_bind (wpAny_standAt (wpAny_bind ?_))
  refine (EvT.cmp (nL W) .int .eqI : EvT (cx _ s _ []) _ ((0 : Int) == 0)) (cx_ok W) s1 _ _ hs1 fun s2 x2 => ?_
  have hs2 := FS.ext W hs1 x2
  have gl2 := FS.glob W hs2
  rw [show (((0 : Int) == 0) = true) from rfl, if_pos rfl]
  refine wpAny_execs_cons (raise_cls excClass_ZeroDivisionError PySem.F.excCall_ZeroDivisionError (by rw [isSubtype_type]; kernel_rfl) W.rm.1 (ev_builtin g.toOk gl2.keep rfl rfl rfl rfl (g.glob rfl) (by rfl) ⟨rfl, rfl⟩) fun h' e hm => ?_)
  obtain ⟨hfr', F2, -, -⟩ := frs_push hs2 hfr hff hnt hL
  refine wpAny_leaves_madeW (base := hideAll s2.heap (L :: frs outer)) (h := s2.heap) hfr' rfl (fun b o' q => of_hideAll _ q) (F2.fun' fun b hb => hb) hm.of fun h3 t0 y1 y2 y3 y4 => ?_
  refine k e _ ⟨L, s2, t0, hL, hs2.kp.mono (fun b q => by simpa [fcS] using q), fun P f t => ?_, ⟨h3, rfl⟩, hm.of.new, y1, y2, (Heap.UpToSlots.of_keeps hm.of.keeps).trans y4⟩
  exact g.toOk.tmono _ _ _ (hs2.tabs P f t) fun a _ p _ => ⟨p.1, fun q => p.2 (mem_MUs.mpr (.inl (q ▸ .head _)))⟩
theorem EvE.run {fc : FC} {s0 s : Shared} {σ : List (Str × AV)} {β : List Item} (W : fc.Ok) (hs : FS fc s0 σ β s) {e : Expr} {r : AV} {Q E : Value → Shared → Prop} (h : EvE (cx fc s0 σ β) e r) (k : ∀ v s', Ext fc.G s s' → VR s'.heap s'.toks (PF fc []) r v → FS fc s0 σ β s' → Q v s') : wpAny (model fc.G.prog fc.G.w) fc.A (eval e fc.env) Q E s :=
  h (cx_ok W) s hs _ _ fun v s' x y => k v s' x y (FS.ext W hs x)
theorem callE {fc : FC} {s0 s : Shared} {σ : List (Str × AV)} {β : List Item} (W : fc.Ok) (hs : FS fc s0 σ β s) {f : Value} {es : List Expr} {rs : List AV} {pos : Pos} {Q : Value → Shared → Prop} {E : Value → Shared → Prop} (hc : Callee (cx fc s0 σ β) f) (ha : EvA (cx fc s0 σ β) es rs)
    (k : ∀ vs s', Ext fc.G s s' → VRs s'.heap s'.toks (PF fc []) rs vs → FS fc s0 σ β s' → wpAny (model fc.G.prog fc.G.w) fc.A (call f vs []) Q E s') :
    wpAny (model fc.G.prog fc.G.w) fc.A (callWith pos f [] (backTo pos (starEach es fc.env)) []) Q E s :=
  callW (cx_ok W) hs hc ha fun vs s' x y => k vs s' x y (FS.ext W hs x)
structure RefPost (G : G0) (L : Addr) (s s' : Shared) : Prop where
  same : ∃ h tk, s' = { s with heap := h, toks := tk }
  le : s.toks ≤ s'.toks
  keep : ∀ b o, b ∉ Tb → b ≠ L → s.heap.get? b = some o → s'.heap.get? b = some o
  slot : ∀ o, s.heap.get? L = some o → ∃ sl, s'.heap.get? L = some { o with slots := sl }
  live : ∀ b o, s.heap.get? b = some o → ∃ o', s'.heap.get? b = some o'
  tabs : ∀ P : Addr → Prop, (∀ a, s.heap.get? a = none → P a) → G.TO P s.heap → G.TO (fun a => P a ∧ a ≠ L) s'.heap
theorem bind_ref (P : Params) : ∀ vs : List Value, vs.length = 1 → bindArgs (fdAt P 172) ⟨vs, []⟩ = pure ((["number"] : List Str).zip vs) := by
  intro vs h
  obtain ⟨a, rfl⟩ := len1 h
  kernel_rfl
theorem fn_refused {G : G0} (g : GN G) {A : Around} {s : Shared} {n : Int} {t : Tok} {envL : Env} {L : Addr} {oL : Obj} {Q E : Value → Shared → Prop} (rm : Rm A 4) (gl : Glob G NT s) (hfr : A.frames = some [envL]) (hkL : envL.scope.kind ≠ .module) (hfL : envL.frame = some L) (hL : s.heap.get? L = some oL) (hdL : ∀ vs, oL.data ≠ .fields vs) (hLt : L ∉ Tb) (hLg : G.g.get? L = none)
    (k : ∀ tk s', RefPost G L s s' → Q (.str Str.empty tk) s') : wpAny (model G.prog G.w) A (call (.ref 172) [.int n t] []) Q E s := by
  refine call_frame g.toOk (k := 3) (sc := ?sc) (fd := fdAt G.w.params 172) (body := bodyAt G.w.params 172) (rs := [.int n]) ["number"] ?hsc rm gl (.cons .int .nil) (g.get (by rfl : (fr.heap_1 G.w.params).lookup 172 = some (objAt G.w.params 172))) rfl
    ⟨171, _, _, _, rfl, g.get rfl, rfl, rfl⟩ rfl rfl rfl rfl ?hnd (by decide) rfl (bind_ref _) ?hk ?main
  case hsc => conv => lhs; whnf
  case hnd => exact of_decide_eq_true (by rfl)
  case hk =>
    intro x hx
    rw [List.mem_singleton.mp hx]
    exact .inl rfl
  case main =>
  intro L1 s1 hL1 W hs1
  conv => arg 3; arg 1; whnf
  refine wpAny_mono (?_ : wpAny _ _ _ _ (fun _ _ => False) _) (fun _ _ h => h) fun _ _ h => h.elim
  refine wpAny_execs_cons (wpAny_Try_except ?_)
  refine wpAny_execs_cons ?_
  rw [exec_Expr _ _ _ (by rfl) (by rfl)]
  refine wpAny_bind (wpAny_standAt (wpAny_bind ?_))
  rw [arm_eval_Call_Name']
  refine wpAny_bind (EvE.run W hs1 (EvE.name (Has.global rfl (g.glob rfl))) fun v s2 x2 y2 hs2 => ?_)
  (first | ((first | replace y2 := VR.intI y2 | replace y2 := VR.strI y2); obtain ⟨_, rfl⟩ := y2) | ((first | replace y2 := VR.rawI y2 | replace y2 := VRs.nilI y2 | replace y2 := VR.boolI y2 | replace y2 := VR.noneI y2); subst y2) | cases y2)
  refine callE W hs2 (Callee.func (cx_ok W) (g.get (by rfl : (fr.heap_1 G.w.params).lookup 63 = some (objAt G.w.params 63))) (fd := fdAt G.w.params 63) rfl) (rs := [.int n, .int 0]) (.cons (nL W) (.cons .int .nil)) fun vs s3 x3 y3 hs3 => ?_
  replace y3 := VRs.consI y3
  obtain ⟨_, _, rfl, z1, y3⟩ := y3
  replace y3 := VRs.consI y3
  obtain ⟨_, _, rfl, z2, y3⟩ := y3
  (first | ((first | replace y3 := VR.intI y3 | replace y3 := VR.strI y3); obtain ⟨_, rfl⟩ := y3) | ((first | replace y3 := VR.rawI y3 | replace y3 := VRs.nilI y3 | replace y3 := VR.boolI y3 | replace y3 := VR.noneI y3); subst y3) | cases y3)
  (first | ((first | replace z1 := VR.intI z1 | replace z1 := VR.strI z1); obtain ⟨_, rfl⟩ := z1) | ((first | replace z1 := VR.rawI z1 | replace z1 := VRs.nilI z1 | replace z1 := VR.boolI z1 | replace z1 := VR.noneI z1); subst z1) | cases z1)
  (first | ((first | replace z2 := VR.intI z2 | replace z2 := VR.strI z2); obtain ⟨_, rfl⟩ := z2) | ((first | replace z2 := VR.rawI z2 | replace z2 := VRs.nilI z2 | replace z2 := VR.boolI z2 | replace z2 := VR.noneI z2); subst z2) | cases z2)
  have gl3 := FS.glob W hs3
  have kp3 : Kp Tb s s3 := hs3.kp.mono fun b q => by simpa [fcS] using q
  have hL1t : L1 ∉ Tb := hs3.mut W (mem_MUs.mpr (.inl (.head _)))
  have hneL : L ≠ L1 := fun q => by rw [q, hL1] at hL; cases hL
  have hL3 : s3.heap.get? L = some oL := kp3.keep L oL hLt hL
  have hL1g : G.g.get? L1 = none := by
    cases e : G.g.get? L1 with
    | none => rfl
    | some o => have := gl.keep _ _ e; rw [hL1] at this; cases this
  obtain ⟨m3, hns3, hm3⟩ := hs3.vars.loc
  obtain ⟨hfr3, F3, hfrs, -⟩ := frs_push hs3 hfr (fun env he => by rw [List.mem_singleton.mp he]; exact ⟨hkL, L, oL, hfL, hL, hdL⟩) (fun b hb => by
    have : frs [envL] = [L] := by unfold frs; rw [List.filterMap_cons, hfL]; rfl
    rw [this] at hb
    rw [List.mem_singleton.mp hb]; exact hLt) hL1
  have hfrL : frs [envL] = [L] := by unfold frs; rw [List.filterMap_cons, hfL]; rfl
  rw [hfrL] at hfrs
  refine idm_zero g (deeper_rm rm |>.le (by decide)) ((gl3.wk g.toOk fun a p => p.1)) hfr3 F3 (fun b hb => ?_) fun e s5 z => ?_
  · rw [hfrs] at hb
    rcases List.mem_cons.mp hb with rfl | hb
    · exact hL1t
    · rw [List.mem_singleton.mp hb]; exact hLt
  obtain ⟨L0, s4, t0, hL0, kp4, tab4, ⟨hh5, rfl⟩, he4, ⟨st, hen, hff, htr⟩, htup, uts⟩ := z.ex
  rw [hfrs] at st hen htr hff
  have hg4 : ∀ a ob, G.g.get? a = some ob → s4.heap.get? a = some ob := fun a ob e => kp4.keep a ob (fun q => by rw [g.toOk.hide a q] at e; cases e) (gl3.keep a ob e)
  have hgB : ∀ a ob, G.g.get? a = some ob → (hideAll s4.heap (L0 :: [L1, L])).get? a = some ob := fun a ob e => hideAll_get _ (hg4 a ob e) fun q => by
    rcases List.mem_cons.mp q with rfl | q
    · have := gl3.keep _ _ e; rw [hL0] at this; cases this
    · rcases List.mem_cons.mp q with rfl | q
      · rw [hL1g] at e; cases e
      · rw [List.mem_singleton.mp q, hLg] at e; cases e
  refine wpAny_noteFrame_onW hfr3 hff rfl htr st hen fun h1 hN => ?_
  obtain ⟨st1, ff1, tr1, ut1⟩ := hN
  refine wpAny_setFlight_noneW st1 ff1 tr1 fun h2 st2 ff2 tr2 ut2 => ?_
  refine wpAny_handleBy_builtin_as (X := "ZeroDivisionError") (T := "ZeroDivisionError") (b := true) (by rw [isSubtype_type]; kernel_rfl) (by rw [isSubtype_type]; kernel_rfl) (by rw [isSubtype_type]; kernel_rfl) ?_
  refine ev_builtin g.toOk (fun a ob e => st2 a ob (hgB a ob e)) rfl rfl rfl rfl (g.glob rfl) (by rfl) ⟨rfl, ?_, ?_⟩
  · obtain ⟨ob, e1, e2⟩ := tr2.at.there
    exact ⟨ob, e1, e2⟩
  rw [if_pos rfl]
  refine wpAny_setFlight_noneW st2 ff2 tr2.at fun h3 st3 ff3 tr3 ut3 => ?_
  have utA : s4.heap.UpToSlots h3 := fun b o e hn => by
    obtain ⟨sl1, e1⟩ := uts b o e hn
    obtain ⟨sl2, e2⟩ := ut1 b _ e1 hn
    exact ⟨sl2, ut3 b _ (ut2 b _ e2 hn) hn⟩
  have hns4 : s4.heap.Ns L1 m3 := hns3.at' fun o e => kp4.keep _ o hL1t e
  have hnsA : h3.Ns L1 m3 := utA.ns hns4
  have htupA : h3.TupAt t0 [] := by
    refine htup.of_slots fun b o e hn => ?_
    obtain ⟨sl2, e2⟩ := ut1 b _ e hn
    exact ⟨sl2, ut3 b _ (ut2 b _ e2 hn) hn⟩
  refine wpAny_storeName_local rfl hnsA (fun h4 hn4 hs4 => ?_)
  have heL : e ≠ L1 := fun q => by
    have : s4.heap.get? L1 ≠ none := by obtain ⟨o, _, _, eo, _⟩ := hns4; rw [eo]; exact nofun
    rw [q] at he4; exact this he4
  have tupL : t0 ≠ L1 := fun q => by
    obtain ⟨o, n', eo, hc', hd'⟩ := htupA
    obtain ⟨o2, es, ep, eo2, hd2, _⟩ := hnsA
    rw [q, eo2] at eo
    cases eo
    rw [hd2] at hd'; cases hd'
  have hkeep4 : ∀ b o, b ≠ L1 → h3.get? b = some o → h4.get? b = some o := fun b o hb e => hs4.extBut b o hb e
  refine wpAny_execs_cons ?_
  rw [exec_Return_some]
  refine wpAny_bind (wpAny_standAt (wpAny_bind ?_))
  rw [arm_eval_Call_Name']
  have hgl4 : ∀ a ob, G.g.get? a = some ob → h4.get? a = some ob := fun a ob e => hkeep4 a ob (fun q => by rw [q, hL1g] at e; cases e) (st3 a ob (hgB a ob e))
  refine wpAny_bind (ev_builtin g.toOk hgl4 rfl rfl rfl rfl (g.glob rfl) (v := .type "str") (by rfl) ?_)
  refine callWith_type1 (wpAny_items_cons (wpAny_Name (wpAny_loadName_local rfl rfl hn4 (v := .ref e) (by rw [if_pos rfl]) ?_) (by decide)) (by rfl))
  refine wpAny_items_nil ?_
  refine P.str_of_exc_none PySem.F.excStr_ZeroDivisionError (t0 := t0) ?_ ?_ ?_ ?_
  · have h1 := rm.2.2
    have h2 : A.units + 3 + 2 < cLine := by omega
    exact h2
  · obtain ⟨oe, vs, T, oT, ts, he', ⟨hcls, h0⟩, hd', _⟩ := tr3
    exact ⟨oe, vs, hkeep4 _ _ heL he', hcls, hd', h0⟩
  · obtain ⟨o, n', eo, hc', hd'⟩ := htupA
    exact ⟨o, n', hkeep4 _ _ tupL eo, hc', hd'⟩
  refine wpAny_pure ?_
  refine wpAny_nameGoes rfl hn4 rfl fun h5 m5 hn5 hs5 => ?_
  show Q (.str Str.empty _) _
  have hkeep5 : ∀ b o, b ≠ L1 → h3.get? b = some o → h5.get? b = some o := fun b o hb e => hs5.extBut b o hb (hkeep4 b o hb e)
  have hs3same := hs3.kp.same
  obtain ⟨g1, tk1, rfl⟩ := hs3same
  obtain ⟨g2, tk2, e4⟩ := kp4.same
  subst e4
  have fin : ∀ b o, b ≠ L0 → b ≠ L1 → b ≠ L → g2.get? b = some o → h5.get? b = some o := fun b o n0 n1 n2 e => hkeep5 b o n1 (st3 b o (hideAll_get _ e fun q => by
    rcases List.mem_cons.mp q with q | q
    · exact n0 q
    · rcases List.mem_cons.mp q with q | q
      · exact n1 q
      · exact n2 (List.mem_singleton.mp q)))
  have old0 : ∀ b o, s.heap.get? b = some o → b ≠ L0 ∧ b ≠ L1 := fun b o e => by
    refine ⟨fun q => ?_, fun q => ?_⟩
    · obtain ⟨o', e'⟩ := kp3.live b o e
      rw [q, hL0] at e'; cases e'
    · rw [q, hL1] at e; cases e
  have slotL : ∃ sl, h5.get? L = some { oL with slots := sl } := by
    obtain ⟨sl, e⟩ := utA L oL (kp4.keep L oL hLt hL3) hdL
    exact ⟨sl, hkeep5 _ _ hneL e⟩
  refine k _ _ ⟨⟨h5, _, rfl⟩, ?_, fun b o hb hbL e => ?_, fun o e => ?_, fun b o e => ?_, fun P f t => ?_⟩
  · have a1 := kp3.le
    have a2 := kp4.le
    show s.toks ≤ tk2 + 1 + 1 + 1
    exact Nat.le_trans (Nat.le_trans a1 a2) (by show tk2 ≤ _; omega)
  · exact fin b o (old0 b o e).1 (old0 b o e).2 hbL (kp4.keep b o hb (kp3.keep b o hb e))
  · rw [hL] at e
    cases e
    exact slotL
  · by_cases hbL : b = L
    · obtain ⟨sl, e'⟩ := slotL
      exact ⟨_, hbL ▸ e'⟩
    · obtain ⟨o3, e3⟩ := kp3.live b o e
      obtain ⟨o4, e4⟩ := kp4.live b o3 e3
      exact ⟨o4, fin b o4 (old0 b o e).1 (old0 b o e).2 hbL e4⟩
  · have t3 := hs3.tabs P f t
    have t4 := tab4 _ (fun a ea => ⟨f a (kp3.none ea), fun q => by obtain ⟨ob, eo⟩ := hs3.live a q; rw [ea] at eo; cases eo⟩) t3
    refine g.toOk.tok _ _ _ (g.toOk.tmono _ (fun a => (P a ∧ a ≠ L) ∧ a ≠ L0 ∧ a ≠ L1) _ (g.toOk.tsep _ _ L oL t4 (kp4.keep L oL hLt hL3) hdL) fun a _ p _ => ⟨⟨p.1.1.1, p.2⟩, p.1.2, fun q => p.1.1.2 (mem_MUs.mpr (.inl (q ▸ .head _)))⟩) (fun a ob hp e => ?_) |> fun T => g.toOk.tmono _ _ _ T fun a _ p _ => p.1
    rcases hp with p | p
    · exact fin a ob p.2.1 p.2.2 p.1.2 e
    · refine fin a ob (fun q => ?_) (fun q => hL1t (q ▸ p)) (fun q => hLt (q ▸ p)) e
      obtain ⟨ob', eo⟩ := g.toOk.tlive _ _ gl3.tabs a p
      rw [q, hL0] at eo; cases eo
section
variable {prog : Program} {w : World} {A : Around} {E : Value → Shared → Prop} {s : Shared}
theorem nsSet_put {d : Addr} {od od' : Obj} {name : Str} {v : Value} {Q : Unit → Shared → Prop} {M : Model} (D : s.heap.get? d = some od) (hl : (lookIn name od).isSome = true)
    (e : Obj.putName name (PyData.keyHash M.w.params name) (.str name s.toks) v od = od') (hf : od'.isFreed = false) (h : ∀ h', h'.get? d = some od' → Heap.SameBut d s.heap h' → Q () { s with heap := h', toks := s.toks + 1 }) : wpAny M A (nsSet d name v) Q E s := by
  unfold nsSet
  refine wpAny_bind (wpAny_bind (wpAny_askSetting (wpAny_pure (wpAny_bind (wpAny_mkText (wpAny_bind (wpAny_loadPart D ?_)))))))
  unfold lookIn at hl
  split at hl
  · rename_i es₀ n₀ q
    rw [q]
    dsimp only
    have c : (!es₀.any (·.key.isStr name) && es₀.any (·.refKey)) = false := by
      rw [← Array.any_toList, ← Array.any_toList]
      split at hl
      · rename_i en he
        rw [List.any_eq_true.mpr ⟨en, List.mem_of_find?_eq_some he, List.find?_some he⟩]; rfl
      · split at hl
        · cases hl
        · rename_i z; rw [Bool.not_eq_true] at z; rw [z, Bool.and_false]
    rw [aRefKeyMayBeTheName_at, c]
    refine wpAny_updatePart D (h _ ?_ (Heap.SameBut.update ..))
    have := Heap.get?_update_self (Obj.putName name (PyData.keyHash M.w.params name) (.str name s.toks) v) D (by rw [e]; exact hf)
    rw [e] at this
    exact this
  · cases hl
theorem inst_set {K : Frag} {x C dx : Addr} {ox od od' : Obj} {name : Str} {v : Value} {es : List DictEntry} {n : Nat} {Q : Unit → Shared → Prop} (X : K.In s.heap) (I : InstAt s.heap x ox C (some od)) (hd : ox.dict = some dx)
    (hs : findIn K (.ref C) "__setattr__" = some (some (.builtin "object.__setattr__"))) (hp : plainOver K C = true) (ht : takerIn K C name = some none) (hh : (clsIn K C).any (·.hasDict) = true) (hl : (lookIn name od).isSome = true)
    (e : Obj.putName name (PyData.keyHash w.params name) (.str name (s.toks + 1)) v od = od') (e' : od'.data = .dict es.toArray n) (hz : es.length ≤ 1000)
    (h : ∀ h', h'.get? dx = some od' → Heap.SameBut dx s.heap h' → Q () { s with heap := h', toks := s.toks + 1 + 1 }) : wpAny (model prog w) A (setAttr (.ref x) name v) Q E s := by
  have hf : od'.isFreed = false := by obtain ⟨_, _, dd, _⟩ := od'; cases e'; rfl
  refine set_plain X I hs (osa_open (s := { s with toks := s.toks + 1 }) X I hp ht fun b => ?_)
  obtain ⟨cd, hc, hd'⟩ := any_some hh
  obtain ⟨hx, hcl, hn, hdi⟩ := I
  obtain ⟨oc, odi, oda, osl⟩ := ox
  dsimp only at hcl hd hdi
  subst hcl hd
  refine wpAny_bind (wpAny_pure (wpAny_bind (wpAny_bind (wpAny_loadPart hx (wpAny_bind (looks_clsIn X hc _ _ _ _ (fun _ _ e => e) ?_))))))
  rw [hd']
  refine wpAny_pure (a := some dx) (wpAny_bind (wpAny_pure (wpAny_bind ?_)))
  refine nsSet_put (s := { s with toks := s.toks + 1 }) hdi hl e hf fun h' g' sb => ?_
  refine wpAny_bind (wpAny_lookBehind (o := od') g' (by rw [e']; exact pastItsLine_dict (by rw [List.size_toArray, sizeLine_eq]; omega)) ?_)
  exact wpAny_pure (h h' g' sb)
theorem slot_fsa : Slot "function" "__setattr__" "object.__setattr__" :=
  .of (owner := "object") (n := "__setattr__") (by rw [typeLookup_type, builtinLookup_eq_fast]; kernel_rfl) (by decide +kernel) (by decide +kernel) (by decide +kernel)
    (by first | exact .inl (by decide +kernel) | exact .inr (by decide +kernel)) (by rw [isSubtype_type]; kernel_rfl)
theorem slot_fga : Slot "function" "__getattribute__" "object.__getattribute__" :=
  .of (owner := "object") (n := "__getattribute__") (by rw [typeLookup_type, builtinLookup_eq_fast]; kernel_rfl) (by decide +kernel) (by decide +kernel) (by decide +kernel)
    (by first | exact .inl (by decide +kernel) | exact .inr (by decide +kernel)) (by rw [isSubtype_type]; kernel_rfl)
theorem entry_oga : entryFor table "object.__getattribute__" = some Builtin.«object.__getattribute__» := entryFor_of_tree (by kernel_rfl)
theorem args_oga (a b : Value) : argsOk "object.__getattribute__" ⟨[a, b], []⟩ := by unfold argsOk; kernel_rfl
theorem no_read : typeLookup (.type "function") "read" = pure none := by rw [typeLookup_type, builtinLookup_eq_fast]; kernel_rfl
theorem no_getattr : typeLookup (.type "function") "__getattr__" = pure none := by rw [typeLookup_type, builtinLookup_eq_fast]; kernel_rfl
theorem mro_fn : mroOf (.type "function") = pure [.type "function", .type "object"] := by kernel_rfl
theorem refuse_fn (self : Value) : refuseLoop self "__setattr__" [.type "function", .type "object"] = pure () := by kernel_rfl
theorem fn_set {f : Addr} {fd : FuncData} {sl : Array (Option Value)} {v : Value} {Q : Unit → Shared → Prop} (hf : s.heap.get? f = some ⟨.type "function", none, .func fd, sl⟩)
    (h : ∀ h' d t, s.heap.get? d = none → d ≠ f → h'.get? f = some ⟨.type "function", some d, .func fd, sl⟩ → h'.get? d = some { cls := .type "dict", data := .dict #[⟨PyData.keyHash w.params "read", .str "read" t, v⟩] 1 } → (∀ b o, b ≠ f → s.heap.get? b = some o → h'.get? b = some o) → Q () { s with heap := h', toks := s.toks + 1 + 1 }) :
    wpAny (model prog w) A (setAttr (.ref f) "read" v) Q E s := by
  have hT : ({ s with toks := s.toks + 1 } : Shared).TypeIs (.ref f) "function" := ⟨_, hf, rfl⟩
  unfold setAttr
  refine wpAny_bind (wpAny_mkText (wpAny_bind (wpAny_callSpecial?_slot hT slot_fsa (wpAny_call_entry slot_fsa hT F.entry_object_sa ?_ (F.store_object.args _ _ _)))))
  rw [osa_eq, refuse_eq]
  refine wpAny_bind (wpAny_bind (wpAny_typeOf hT (wpAny_bind (wpAny_of_eq mro_fn ?_))))
  refine wpAny_of_eq (refuse_fn _) ?_
  refine wpAny_bind (wpAny_typeOf hT (wpAny_bind (wpAny_of_eq no_read ?_)))
  refine wpAny_bind (wpAny_pure ?_)
  dsimp only
  have td : typeHasDict (.type "function") = true := by decide +kernel
  refine wpAny_bind (wpAny_pure (wpAny_bind ?_))
  show wpAny _ _ (instanceDict f true) _ _ _
  unfold instanceDict
  refine wpAny_bind (wpAny_loadPart (s := { s with toks := s.toks + 1 }) hf ?_)
  dsimp only
  rw [td]
  rw [if_neg (by decide)]
  have hne : f ≠ s.heap.objs.size := Nat.ne_of_lt (Heap.lt_size hf)
  have hf1 : (s.heap.push emptyDict).get? f = some ⟨.type "function", none, .func fd, sl⟩ := Heap.get?_push_of_some _ hf
  have hd1 : (s.heap.push emptyDict).get? s.heap.objs.size = some emptyDict := Heap.get?_push_size _ rfl
  refine wpAny_bind (wpAny_alloc (wpAny_bind (wpAny_update hf1 ?_)))
  have dm : ∀ a d, dictMade (.type "function") a d = pure (some d) := fun a d => by
    unfold dictMade
    have : finalisedInACycleAlone "function" = false := by decide +kernel
    simp only [this, Bool.false_eq_true, if_false]
  refine wpAny_of_eq (dm _ _) ?_
  dsimp only
  unfold Builtin.ObjectAttr.storeInDict
  refine wpAny_bind (wpAny_pure (wpAny_bind ?_))
  have hf2 := Heap.get?_update_self (fun o : Obj => { o with dict := some s.heap.objs.size }) hf1 rfl
  have hd2 : ((s.heap.push emptyDict).update f (fun o : Obj => { o with dict := some s.heap.objs.size })).get? s.heap.objs.size = some emptyDict := (Heap.get?_update_other _ _ hne).trans hd1
  refine nsSet_put (s := { s with heap := (s.heap.push emptyDict).update f (fun o : Obj => { o with dict := some s.heap.objs.size }), toks := s.toks + 1 }) hd2 (by rfl) (od' := { cls := .type "dict", data := .dict #[⟨PyData.keyHash w.params "read", .str "read" (s.toks + 1), v⟩] 1 }) (by rfl) rfl fun h' g' sb => ?_
  refine wpAny_bind (wpAny_lookBehind g' (pastItsLine_dict (show (1 : Nat) ≤ _ by decide)) ?_)
  refine wpAny_pure ⟨.none, rfl, wpAny_pure ?_⟩
  refine h h' s.heap.objs.size (s.toks + 1) (size_none _) hne.symm (sb.extBut f _ hne hf2) g' fun b o hb e => ?_
  exact sb.extBut b o (get_ne e (size_none _)) ((Heap.get?_update_other _ _ (Ne.symm hb)).trans (Heap.get?_push_of_some _ e))
theorem fn_get {f d : Addr} {fd : FuncData} {sl : Array (Option Value)} {v : Value} {t : Tok} {od : Obj} {ex : Bool} {Q : Value → Shared → Prop} (hf : s.heap.get? f = some ⟨.type "function", some d, .func fd, sl⟩) (hd : s.heap.get? d = some od) (hl : lookIn "read" od = some (some v)) (hh : handedOut v = pure v)
    (h : Q v { s with toks := s.toks + 1 }) : wpAny (model prog w) A (getAttr (.ref f) "read" ex) Q E s := by
  have hT : ({ s with toks := s.toks + 1 } : Shared).TypeIs (.ref f) "function" := ⟨_, hf, rfl⟩
  unfold getAttr getAttrBy
  refine wpAny_bind (wpAny_mkText (wpAny_holding (wpAny_bind (wpAny_typeOf hT (wpAny_bind (wpAny_of_eq slot_fga.lookup ?_))))))
  dsimp only
  rw [if_neg (by decide)]
  unfold getAttrByItsOwn
  refine wpAny_bind (wpAny_pure (wpAny_bind (wpAny_attempt ?_)))
  refine wpAny_holding ?_
  unfold callGetattribute
  rw [show (ex && onTheHeap (.builtin "object.__getattribute__")) = false by cases ex <;> rfl, if_neg (by decide)]
  unfold boundAndCalled
  rw [slot_fga.bind]
  refine wpAny_bind (wpAny_pure ?_)
  refine wpAny_call_entry slot_fga hT entry_oga ?_ (args_oga _ _)
  unfold Builtin.«object.__getattribute__»
  refine wpAny_bind (wpAny_pure (wpAny_bind (wpAny_pure (wpAny_bind (wpAny_typeOf hT (wpAny_bind ?_))))))
  unfold Builtin.ObjectAttr.find
  refine wpAny_bind (wpAny_of_eq no_read (wpAny_bind (wpAny_pure (wpAny_bind (wpAny_pure ?_)))))
  dsimp only
  unfold Builtin.ObjectAttr.ownThenClass Builtin.ObjectAttr.inOwnDict Builtin.ObjectAttr.ownDict
  refine wpAny_bind (wpAny_bind (wpAny_bind (wpAny_loadPart (s := { s with toks := s.toks + 1 }) hf ?_)))
  dsimp only
  unfold instanceDict
  refine wpAny_bind (wpAny_loadPart (s := { s with toks := s.toks + 1 }) hf ?_)
  dsimp only
  refine wpAny_pure ?_
  unfold Builtin.ObjectAttr.inDict
  refine wpAny_bind (wpAny_loadPart (s := { s with toks := s.toks + 1 }) hd ?_)
  rw [nsLook_of hl]
  refine wpAny_pure ?_
  refine wpAny_bind (wpAny_rule (wpAny_pure ?_))
  refine wpAny_pure ⟨v, rfl, ?_⟩
  show wpAny _ _ (handedOut v) _ _ _
  rw [hh]
  exact wpAny_pure h
theorem fn_meth {f d : Addr} {fd : FuncData} {sl : Array (Option Value)} {v : Value} {t : Tok} {od : Obj} {pl : Sem Bool} {Q : Value × List Value → Shared → Prop} (hf : s.heap.get? f = some ⟨.type "function", some d, .func fd, sl⟩) (hd : s.heap.get? d = some od) (hl : lookIn "read" od = some (some v)) (hh : handedOut v = pure v)
    (h : Q (v, []) { s with toks := s.toks + 1 }) : wpAny (model prog w) A (getMethod (.ref f) "read" pl) Q E s := by
  have hT : s.TypeIs (.ref f) "function" := ⟨_, hf, rfl⟩
  have hcan : (Manifest.canonical "object.__getattribute__" != "object.__getattribute__") = false := PySem.F.canon_object_ga
  unfold getMethod
  refine wpAny_bind (wpAny_specialOf hT slot_fga.lookup ?_)
  dsimp only
  rw [hcan, if_neg (by decide)]
  refine wpAny_bind (wpAny_specialOf hT no_getattr ?_)
  rw [if_neg (by decide)]
  refine wpAny_bind (wpAny_specialOf hT no_read ?_)
  dsimp only
  exact wpAny_bind (fn_get (t := t) hf hd hl hh (wpAny_pure h))
end
theorem slot_ci_iter : Slot "callable_iterator" "__iter__" "callable_iterator.__iter__" :=
  .of (owner := "callable_iterator") (n := "__iter__") (by rw [typeLookup_type, builtinLookup_eq_fast]; kernel_rfl) (by decide +kernel) (by decide +kernel) (by decide +kernel)
    (by first | exact .inl (by decide +kernel) | exact .inr (by decide +kernel)) (by rw [isSubtype_type]; kernel_rfl)
theorem slot_ci_next : Slot "callable_iterator" "__next__" "callable_iterator.__next__" :=
  .of (owner := "callable_iterator") (n := "__next__") (by rw [typeLookup_type, builtinLookup_eq_fast]; kernel_rfl) (by decide +kernel) (by decide +kernel) (by decide +kernel)
    (by first | exact .inl (by decide +kernel) | exact .inr (by decide +kernel)) (by rw [isSubtype_type]; kernel_rfl)
theorem entry_ci_next : entryFor table "callable_iterator.__next__" = some Builtin.«callable_iterator.__next__» := entryFor_of_tree (by kernel_rfl)
theorem args_ci_next (a : Value) : argsOk "callable_iterator.__next__" ⟨[a], []⟩ := by unfold argsOk; kernel_rfl
theorem args_ci_iter (a : Value) : argsOk "callable_iterator.__iter__" ⟨[a], []⟩ := by unfold argsOk; kernel_rfl
theorem entry_ci_iter : entryFor table "callable_iterator.__iter__" = some Builtin.«dict_keyiterator.__iter__» :=
  entryFor_alias (id' := "dict_keyiterator.__iter__") (by kernel_rfl) (by first | rfl | (unfold String.splitOn; simp +decide [String.splitOnAux])) (by decide +kernel) (by kernel_rfl)
theorem entry_iter : entryFor table "iter" = some Builtin.«iter» := entryFor_of_tree (by kernel_rfl)
theorem kind_iter : builtinKind "iter" = none := by decide +kernel
theorem plain_iter : plainId "iter" = true := by decide +kernel
theorem args_iter2 (a b : Value) : argsOk "iter" ⟨[a, b], []⟩ := by unfold argsOk; kernel_rfl
theorem meth_call_slot : typeLookup (.type "method") "__call__" = pure (some (.builtin "method.__call__")) := by rw [typeLookup_type, builtinLookup_eq_fast]; kernel_rfl
noncomputable abbrev ciObj (m : Addr) (t : Tok) : Obj := { cls := .type "callable_iterator", data := .fields #[.ref m, .str "" t, .bool false] }
noncomputable abbrev ciEnd : Obj := { cls := .type "callable_iterator", data := .fields #[.none, .none, .bool true] }
section
variable {prog : Program} {w : World} {A : Around} {E : Value → Shared → Prop} {s : Shared}
theorem wpAny_borrowed {M : Model} {f : Value} {Q : Value → Shared → Prop} (hc : codeAny M A (.call f ⟨[], []⟩) (fun r s' => match r with | .ok (.ret v) => Q v s' | .ok _ => False | .error e => E e s') s) : wpAny M A (callBorrowed f []) Q E s := fun Γ p hΓ => by
  have h := hc _ p rfl (hΓ.enter (.call f ⟨[], []⟩) none p (by intro x; cases x))
  unfold callBorrowed
  rw [Sem.wp]
  refine (congrArg (fun R => wpCode M (Γ.enter (.call f ⟨[], []⟩) none p) R p s) ?_).mp h
  funext r s'
  cases r with
  | error e => rfl
  | ok f => cases f <;> rfl
theorem call_iter2 {m : Addr} {om : Obj} {t : Tok} {Q : Value → Shared → Prop} (hm : s.heap.get? m = some om) (hc : om.cls = .type "method") (h : Q (.ref s.heap.objs.size) { s with heap := s.heap.push (ciObj m t) }) : wpAny (model prog w) A (call (.builtin "iter") [.ref m, .str "" t]) Q E s := by
  have hT : s.TypeIs (.ref m) "method" := ⟨om, hm, hc⟩
  refine Calls.call_function_entry kind_iter plain_iter entry_iter (args_iter2 _ _) ?_
  unfold Builtin.«iter»
  refine wpAny_bind (wpAny_of_eq (a := [.ref m, .str "" t]) (by rfl) ?_)
  dsimp only
  refine wpAny_bind (wpAny_specialOf hT meth_call_slot ?_)
  rw [if_neg (by decide)]
  refine wpAny_bind (wpAny_rule (wpAny_bind ?_))
  unfold newFields
  refine wpAny_newObj_type ?_ (by size_fits)
  exact wpAny_pure ⟨_, rfl, h⟩
theorem ci_iter {I m : Addr} {t : Tok} {Q : Value → Shared → Prop} {ob : Obj} (hI : s.heap.get? I = some ob) (hc : ob.cls = .type "callable_iterator") (h : Q (.ref I) s) : wpAny (model prog w) A (pyIter (.ref I)) Q E s := by
  have hT : s.TypeIs (.ref I) "callable_iterator" := ⟨ob, hI, hc⟩
  refine wpAny_pyIter_slot hT slot_ci_iter (wpAny_call_entry slot_ci_iter hT entry_ci_iter ?_ (args_ci_iter _))
  show wpAny _ _ (ret (.ref I)) _ _ s
  exact wpAny_pure ⟨_, rfl, "callable_iterator", _, hT, slot_ci_next.lookup, h⟩
theorem ci_next {I m f : Addr} {self : Value} {fd : FuncData} {of : Obj} {t : Tok} {Q : Option Value → Shared → Prop} (hA : A.handled = none) (hI : s.heap.get? I = some (ciObj m t)) (hm : s.heap.get? m = some (methodObj (.ref f) self)) (hf : s.heap.get? f = some of) (hd : of.data = .func fd)
    (h : codeAny (model prog w) A.in1 (.call (.ref f) ⟨[self], []⟩) (fun r s₁ => match r with
      | .ok (.ret v) => ∃ x u, v = .str x u ∧ s₁.heap.get? I = some (ciObj m t) ∧ s₁.heap.get? m = some (methodObj (.ref f) self) ∧ s₁.heap.get? f = some of ∧ (if decide (("" : Str) = x) = true then ∀ h', h'.get? I = some ciEnd → (∀ b o, b ≠ I → s₁.heap.get? b = some o → h'.get? b = some o) → Q none { s₁ with heap := h' } else Q (some (.str x u)) s₁)
      | _ => False) s) : wpAny (model prog w) A (pyNext (.ref I)) Q E s := by
  have hT : s.TypeIs (.ref I) "callable_iterator" := ⟨_, hI, rfl⟩
  unfold pyNext
  refine wpAny_bind (wpAny_attempt (wpAny_callSpecial?_slot (name := Str.ofString "__next__") hT slot_ci_next (wpAny_call_entry slot_ci_next hT entry_ci_next ?_ (args_ci_next _))))
  unfold Builtin.«callable_iterator.__next__»
  refine wpAny_bind (wpAny_of_eq (a := (Value.ref I, [])) rfl ?_)
  dsimp only
  refine wpAny_bind (wpAny_field hI rfl (i := 2) (x := .bool false) rfl ?_)
  rw [if_neg (by decide)]
  refine wpAny_bind (wpAny_field hI rfl (i := 0) (x := .ref m) rfl ?_)
  have bor : ∀ {M : Model} {A' : Around} {E' : Value → Shared → Prop} {s' : Shared} {Q' : Bool → Shared → Prop}, s'.heap.get? m = some (methodObj (.ref f) self) → s'.heap.get? f = some of → Q' true s' → wpAny M A' (borrowsExactly (.ref m)) Q' E' s' := fun hm hf q => by
    unfold borrowsExactly
    refine wpAny_bind (wpAny_load hm ?_)
    dsimp only
    rw [if_pos (by decide)]
    refine wpAny_bind (wpAny_load (a := f) hf ?_)
    rw [hd]
    exact wpAny_pure q
  refine wpAny_bind (wpAny_attempt ?_)
  unfold callOutOfASlot
  refine wpAny_bind (bor hm hf ?_)
  rw [if_pos rfl]
  refine wpAny_borrowed (method_call hm (codeAny_mono h fun r s₁ z => ?_))
  match r, z with
  | .ok (.ret v), z =>
    obtain ⟨x, u, rfl, gI, gm, gf, k⟩ := z
    dsimp only
    refine wpAny_bind (wpAny_field gI rfl (i := 2) (x := .bool false) rfl ?_)
    rw [if_neg (by decide)]
    refine wpAny_bind (wpAny_field gI rfl (i := 1) (x := .str "" t) rfl ?_)
    refine wpAny_bind (wpAny_holding (wpAny_eqBool_str ?_))
    by_cases hx : decide (("" : Str) = x) = true
    · rw [if_pos hx] at k
      rw [hx]
      rw [if_neg (by decide)]
      refine wpAny_bind (wpAny_rule (wpAny_bind ?_))
      show wpAny _ _ (field (.ref I) 0 >>= fun y => slotLetsGo _ y _ >>= fun _ => setField (.ref I) 0 .none >>= fun _ => setField (.ref I) 1 .none >>= fun _ => setField (.ref I) 2 (.bool true)) _ _ _
      refine wpAny_bind (wpAny_field gI rfl (i := 0) (x := .ref m) rfl ?_)
      unfold slotLetsGo
      dsimp only
      refine wpAny_bind (wpAny_bind (bor gm gf ?_))
      rw [if_pos rfl]
      refine wpAny_pure ?_
      refine wpAny_bind (wpAny_setField_rec gI (by simp) fun h1 g1 b1 => ?_)
      refine wpAny_bind (wpAny_setField_rec (s := { s₁ with heap := h1 }) g1 (by simp) fun h2 g2 b2 => ?_)
      refine wpAny_setField_rec (s := { s₁ with heap := h2 }) g2 (by simp) fun h3 g3 b3 => ?_
      show wpAny _ _ (Builtin.SmallTypes.stopIteration) _ _ _
      unfold Builtin.SmallTypes.stopIteration
      refine wpAny_bind ?_
      simp only [newExc, newTuple]
      refine wpAny_bind (wpAny_newObj_type ?_ (by size_fits))
      refine wpAny_bind (m := firstArgMember _ _) (wpAny_of_eq (a := Value.none) (by first | rfl | (simp only [firstArgMember]; rfl)) ?_)
      refine wpAny_newObj_type ?_ (by size_fits)
      simp only [raiseNew]
      refine wpAny_bind (wpAny_handled ?_)
      rw [show A.in1.handled = none from hA]
      refine wpAny_bind (wpAny_pure (wpAny_throw ?_))
      refine wpAny_bind (wpAny_isInstance (T := "StopIteration") (b := true) ⟨_, Heap.get?_push_size _ rfl, rfl⟩ isSubtype_stop ?_)
      refine wpAny_pure (k _ ?_ fun b o hb e => ?_)
      · exact Heap.get?_push_of_some _ (Heap.get?_push_of_some _ g3)
      · exact Heap.get?_push_of_some _ (Heap.get?_push_of_some _ (b3.extBut b o hb (b2.extBut b o hb (b1.extBut b o hb e))))
    · rw [if_neg hx] at k
      rw [Bool.not_eq_true] at hx
      rw [hx]
      rw [if_pos (by rfl)]
      exact wpAny_pure ⟨_, rfl, wpAny_pure k⟩
theorem ci_ended {I : Addr} {Q : Option Value → Shared → Prop} (hA : A.handled = none) (hI : s.heap.get? I = some ciEnd) (h : ∀ h', (∀ b o, s.heap.get? b = some o → h'.get? b = some o) → Q none { s with heap := h' }) : wpAny (model prog w) A (pyNext (.ref I)) Q E s := by
  have hT : s.TypeIs (.ref I) "callable_iterator" := ⟨_, hI, rfl⟩
  unfold pyNext
  refine wpAny_bind (wpAny_attempt (wpAny_callSpecial?_slot (name := Str.ofString "__next__") hT slot_ci_next (wpAny_call_entry slot_ci_next hT entry_ci_next ?_ (args_ci_next _))))
  unfold Builtin.«callable_iterator.__next__»
  refine wpAny_bind (wpAny_of_eq (a := (Value.ref I, [])) rfl ?_)
  dsimp only
  refine wpAny_bind (wpAny_field hI rfl (i := 2) (x := .bool true) rfl ?_)
  rw [if_pos (by decide)]
  refine wpAny_bind (wpAny_rule (wpAny_bind ?_))
  unfold Builtin.SmallTypes.stopIteration
  refine wpAny_bind ?_
  simp only [newExc, newTuple]
  refine wpAny_bind (wpAny_newObj_type ?_ (by size_fits))
  refine wpAny_bind (m := firstArgMember _ _) (wpAny_of_eq (a := Value.none) (by first | rfl | (simp only [firstArgMember]; rfl)) ?_)
  refine wpAny_newObj_type ?_ (by size_fits)
  simp only [raiseNew]
  refine wpAny_bind (wpAny_handled ?_)
  rw [show A.in1.handled = none from hA]
  refine wpAny_bind (wpAny_pure (wpAny_throw ?_))
  refine wpAny_bind (wpAny_isInstance (T := "StopIteration") (b := true) ⟨_, Heap.get?_push_size _ rfl, rfl⟩ isSubtype_stop ?_)
  exact wpAny_pure (h _ fun b o e => Heap.get?_push_of_some _ (Heap.get?_push_of_some _ e))
end
structure LexA where
  aL : Addr
  dL : Addr
  aF : Addr
  dF : Addr
  aR : Addr
  cS : Addr
  aS : Addr
  aP : Addr
  cd : Addr
noncomputable def LexA.ad (a : LexA) : List Addr := [a.aL, a.dL, a.aF, a.dF, a.aR, a.cS, a.aS, a.aP]
noncomputable def ws4 : Str := "\n\t\r "
noncomputable def lexD (P : Params) (k1 k2 k3 k4 : Tok) (n : Int) (t : Tok) (aF : Addr) (w : Tok) (aP : Addr) : Obj := { cls := .type "dict", data := .dict #[⟨PyData.keyHash P "lineno", .str "lineno" k1, .int n t⟩, ⟨PyData.keyHash P "instream", .str "instream" k2, .ref aF⟩, ⟨PyData.keyHash P "whitespace", .str "whitespace" k3, .str ws4 w⟩, ⟨PyData.keyHash P "pushback", .str "pushback" k4, .ref aP⟩] 4 }
noncomputable def readD (P : Params) (k : Tok) (aR : Addr) : Obj := { cls := .type "dict", data := .dict #[⟨PyData.keyHash P "read", .str "read" k, .ref aR⟩] 1 }
noncomputable def lamOf : List Stmt → Option (Arguments × Expr × Scope × Pos)
  | _ :: .Assign _ (.Lambda a b s p) _ :: _ => some (a, b, s, p)
  | _ => none
noncomputable def lamArgs (P : Params) : Arguments := match lamOf (bodyAt P 134) with | some x => x.1 | none => default
noncomputable def lamBody (P : Params) : Expr := match lamOf (bodyAt P 134) with | some x => x.2.1 | none => default
noncomputable def lamScope (P : Params) : Scope := match lamOf (bodyAt P 134) with | some x => x.2.2.1 | none => default
noncomputable abbrev lamFd (P : Params) (cS : Addr) (pm cdv ctv : Value) : FuncData := kla_fn "<lambda>" (lamQual P) (lamArgs P) (lamBody P) (lamScope P) [("signs", cS)] pm cdv ctv
noncomputable def chA (c : Nat) : AV := .str ⟨#[c]⟩
structure LexP (P : Params) (a : LexA) (n : Int) (cs : List Nat) (Q : Addr → Prop) (h : Heap) (τ : Nat) : Prop where
  iL : h.get? a.aL = some (instObj 123 a.dL)
  iD : ∃ k1 k2 k3 k4 t w, h.get? a.dL = some (lexD P k1 k2 k3 k4 n t a.aF w a.aP)
  iP : ∃ m, IsL h a.aP #[] m
  iF : ∃ fd sl, h.get? a.aF = some ⟨.type "function", some a.dF, .func fd, sl⟩
  iE : ∃ k, h.get? a.dF = some (readD P k a.aR)
  iR : ∃ pm ctv o vs t, h.get? a.aR = some { cls := .type "function", data := .func (lamFd P a.cS pm (.ref a.cd) ctv) } ∧ Q a.cd ∧ h.get? a.cd = some o ∧ o.data = .fields vs ∧ vs[1]? = some (.str (lamQual P) t)
  iC : h.IsCell a.cS (some (.ref a.aS))
  iS : ∃ vs m, IsL h a.aS vs.toArray m ∧ VRs h τ Q (cs.reverse.map chA) vs
theorem chA_atoms (l : List Nat) : (l.map chA).all AV.atom = true := by simp [List.all_eq_true, AV.atom, chA]
theorem ad_all {a : LexA} {C : Addr → Prop} (k : ∀ b ∈ a.ad, C b) : C a.aL ∧ C a.dL ∧ C a.aF ∧ C a.dF ∧ C a.aR ∧ C a.cS ∧ C a.aS ∧ C a.aP :=
  ⟨k _ (.head _), k _ (.tail _ (.head _)), k _ (.tail _ (.tail _ (.head _))), k _ (.tail _ (.tail _ (.tail _ (.head _)))), k _ (.tail _ (.tail _ (.tail _ (.tail _ (.head _))))), k _ (.tail _ (.tail _ (.tail _ (.tail _ (.tail _ (.head _)))))), k _ (.tail _ (.tail _ (.tail _ (.tail _ (.tail _ (.tail _ (.head _))))))), k _ (.tail _ (.tail _ (.tail _ (.tail _ (.tail _ (.tail _ (.tail _ (.head _))))))))⟩
theorem ad_any {a : LexA} {C : Addr → Prop} (h1 : C a.aL) (h2 : C a.dL) (h3 : C a.aF) (h4 : C a.dF) (h5 : C a.aR) (h6 : C a.cS) (h7 : C a.aS) (h8 : C a.aP) : ∀ b ∈ a.ad, C b :=
  List.forall_mem_cons.mpr ⟨h1, List.forall_mem_cons.mpr ⟨h2, List.forall_mem_cons.mpr ⟨h3, List.forall_mem_cons.mpr ⟨h4, List.forall_mem_cons.mpr ⟨h5, List.forall_mem_cons.mpr ⟨h6, List.forall_mem_cons.mpr ⟨h7, List.forall_mem_cons.mpr ⟨h8, fun _ h => nomatch h⟩⟩⟩⟩⟩⟩⟩⟩
noncomputable def Item.lex (P : Params) (a : LexA) (n : Int) (cs : List Nat) : Item where
  ad := a.ad
  pr := LexP P a n cs
  fr := fun Q Q' h h' τ τ' x hk hp ht => by
    have kk : ∀ b ∈ a.ad, ∀ o, h.get? b = some o → h'.get? b = some o := fun b hb o e => hk b o (.inr hb) e
    obtain ⟨kL, kD, kF, kE, kR, kC, kS, kP⟩ := ad_all kk
    obtain ⟨k1, k2, k3, k4, t, w, d2⟩ := x.iD
    obtain ⟨m, d3⟩ := x.iP
    obtain ⟨fd, sl, d4⟩ := x.iF
    obtain ⟨k5, d5⟩ := x.iE
    obtain ⟨pm, ctv, o, vs, t', d6, q, e1, e2, e3⟩ := x.iR
    obtain ⟨oc, d7, d8⟩ := x.iC
    obtain ⟨ws, m', d9, d10⟩ := x.iS
    refine ⟨kL _ x.iL, ⟨_, _, _, _, _, _, kD _ d2⟩, ⟨m, kP _ d3⟩, ⟨fd, sl, kF _ d4⟩, ⟨k5, kE _ d5⟩, ⟨pm, ctv, o, vs, t', kR _ d6, hp _ o q e1, hk _ o (.inl q) e1, e2, e3⟩, ⟨oc, kC _ d7, d8⟩, ⟨ws, m', kS _ d9, d10.atoms (chA_atoms _) ht⟩⟩
  lv := fun Q h τ x b hb => by
    obtain ⟨k1, k2, k3, k4, t, w, d2⟩ := x.iD
    obtain ⟨m, d3⟩ := x.iP
    obtain ⟨fd, sl, d4⟩ := x.iF
    obtain ⟨k5, d5⟩ := x.iE
    obtain ⟨pm, ctv, o, vs, t', d6, _⟩ := x.iR
    obtain ⟨oc, d7, d8⟩ := x.iC
    obtain ⟨ws, m', d9, d10⟩ := x.iS
    exact ad_any (C := fun b => ∃ o, h.get? b = some o) ⟨_, x.iL⟩ ⟨_, d2⟩ ⟨_, d4⟩ ⟨_, d5⟩ ⟨_, d6⟩ ⟨_, d7⟩ ⟨_, d9⟩ ⟨_, d3⟩ b hb
noncomputable def EvX (fc : FC) (s0 : Shared) (σ : List (Str × AV)) (β : List Item) (e : Expr) (r : AV) (β' : List Item) : Prop := ∀ s Q E, FS fc s0 σ β s → (∀ v s', FS fc s0 σ β' s' → VR s'.heap s'.toks (PF fc β') r v → Q v s') → wpAny (model fc.G.prog fc.G.w) fc.A (eval e fc.env) Q E s
section
variable {fc : FC} {s0 : Shared} {σ : List (Str × AV)} {β β' : List Item} {Post : Flow → Shared → Prop} {rest : List Stmt}
theorem Tri.asgX (W : fc.Ok) {x : Str} {p pos : Pos} {e : Expr} {r : AV} (h : EvX fc s0 σ β e r β') (hx : Kd fc.env fc.own x) (k : Tri fc (FS fc s0 ((x, r) :: σ) β') rest Post) (hsw : swapsWith e (some (.Name x p)) pos.line fc.env = pure false := by rfl) :
    Tri fc (FS fc s0 σ β) (.Assign [.Name x p] e pos :: rest) Post := Tri.asg hsw fun E s hs => h s _ _ hs fun v s1 h1 y => h1.store W hx y fun s2 h2 E' => k E' s2 h2
theorem FS.kin {G : G0} (g : GK G) (hG : fc.G = G) (W : fc.Ok) {s} (hs : FS fc s0 σ β s) : (fr.heap_1 G.w.params).In s.heap := by
  subst hG
  have := (hs.glob W).kin W.g
  rwa [g.K] at this
theorem lex_inst {P : Params} {a : LexA} {n : Int} {cs : List Nat} {Q : Addr → Prop} {h : Heap} {τ : Nat} (x : LexP P a n cs Q h τ) : ∃ k1 k2 k3 k4 t w, InstAt h a.aL (instObj 123 a.dL) 123 (some (lexD P k1 k2 k3 k4 n t a.aF w a.aP)) := by
  obtain ⟨k1, k2, k3, k4, t, w, d2⟩ := x.iD
  exact ⟨k1, k2, k3, k4, t, w, x.iL, rfl, rfl, d2⟩
theorem ga_lex (P : Params) : findIn (fr.heap_1 P) (.ref 123) "__getattribute__" = some (some (.builtin "object.__getattribute__")) := by rfl
theorem sa_lex (P : Params) : findIn (fr.heap_1 P) (.ref 123) "__setattr__" = some (some (.builtin "object.__setattr__")) := by rfl
theorem hk_lex (P : Params) : findIn (fr.heap_1 P) (.ref 123) "__getattr__" = some none := by rfl
theorem f_line (P : Params) {k1 k2 k3 k4 n t aF w aP} : findObj (fr.heap_1 P) 123 (some (lexD P k1 k2 k3 k4 n t aF w aP)) "lineno" = some (.value (.int n t)) := by rfl
theorem f_ins (P : Params) {k1 k2 k3 k4 n t aF w aP} : findObj (fr.heap_1 P) 123 (some (lexD P k1 k2 k3 k4 n t aF w aP)) "instream" = some (.value (.ref aF)) := by rfl
theorem f_ws (P : Params) {k1 k2 k3 k4 n t aF w aP} : findObj (fr.heap_1 P) 123 (some (lexD P k1 k2 k3 k4 n t aF w aP)) "whitespace" = some (.value (.str ws4 w)) := by rfl
theorem f_pb (P : Params) {k1 k2 k3 k4 n t aF w aP} : findObj (fr.heap_1 P) 123 (some (lexD P k1 k2 k3 k4 n t aF w aP)) "pushback" = some (.value (.ref aP)) := by rfl
theorem f_rc (P : Params) {k1 k2 k3 k4 n t aF w aP} : findObj (fr.heap_1 P) 123 (some (lexD P k1 k2 k3 k4 n t aF w aP)) "_read_char" = some (.bind (.builtin "function.__get__") (.ref 106)) := by rfl
end
theorem meth_evalG {M : Model} {A : Around} {env : Env} {o : Expr} {name : Str} {apos pos : Pos} {args : List Expr} {s : Shared} {Q : Value → Shared → Prop} {E : Value → Shared → Prop}
    (h : wpAny M A (eval o env) (fun ov s₁ => ∀ pl : Sem Bool, wpAny M A (getMethod ov name pl) (fun fp s₂ => wpAny M A (callWith pos fp.1 fp.2 (backTo pos (starEach args env)) []) Q E s₂) E s₁) E s)
    (hbase : attributeBase o name env (eval o env) = eval o env) (hform : methodCallForm (args.length + 0) (backTo pos (starEach args env)) [] = true) (hline : (apos.endLine == pos.line) = true) :
    wpAny M A (eval (.Call (.Attribute o name apos) args [] pos) env) Q E s := by
  rw [arm_eval_Call, hbase]
  refine wpAny_bind (wpAny_mono h (fun ov s₁ h₁ => ?_) fun _ _ e => e)
  refine wpAny_bind (wpAny_standAt ?_)
  have hpos : methodCallPos true o env apos pos = pure pos := by unfold methodCallPos; simp [hline]
  have hkw : backToKw pos (keywordEach [] env) = [] := rfl
  unfold methodCall
  rw [hkw, show args.length + ([] : List Keyword).length = args.length + 0 from rfl, hform]
  refine wpAny_bind (wpAny_holding (wpAny_mono (h₁ _) (fun fp s₂ h₂ => ?_) fun _ _ e => e))
  exact wpAny_bind (wpAny_of_eq hpos h₂)
theorem bind_lam (P : Params) (cS : Addr) (pm cdv ctv v : Value) : bindArgs (lamFd P cS pm cdv ctv) ⟨[v], []⟩ = pure [(("count" : Str), v)] := by kernel_rfl
theorem lam_call {prog : Program} {w : World} {A : Around} {s : Shared} {R : Result → Shared → Prop} {aR cS aS : Addr} {pm cdv ctv : Value} {vs : List Value} {m : Nat} {t : Tok}
    (hroom : A.depth + 1 < recursionLimit) (hlim : s.heap.NoLimit) (hR : s.heap.get? aR = some { cls := .type "function", data := .func (lamFd w.params cS pm cdv ctv) }) (hcd : s.heap.CodeRec cdv (lamQual w.params)) (hC : s.heap.IsCell cS (some (.ref aS))) (hS : IsL s.heap aS vs.toArray m) (hz : vs.length ≤ 1000000)
    (h0 : vs = [] → ∀ h' tk t', s.toks ≤ tk → (∀ b o, s.heap.get? b = some o → h'.get? b = some o) → R (.ok (.ret (.str "" t'))) { s with heap := h', toks := tk })
    (h1 : ∀ ws y, vs = ws ++ [y] → ∀ h' tk, s.toks ≤ tk → (∀ b o, b ≠ aS → s.heap.get? b = some o → h'.get? b = some o) → (∃ m', IsL h' aS ws.toArray m') → R (.ok (.ret y)) { s with heap := h', toks := tk }) :
    codeAny (model prog w) A (.call (.ref aR) ⟨[.int 1 t], []⟩) R s := by
  refine kla_callFunE (by omega) hR rfl rfl rfl rfl hcd ?_
  rw [bind_lam]
  refine wpAny_pure (wpAny_newFunctionEnv ?_ ?_ (fun h' hns hsb => ⟨hlim.fresh _ hsb, kla_codeExpr ?_⟩) rfl)
  · exact noCell (by rfl)
  · intro x hx
    rw [List.mem_singleton.mp hx]; rfl
  have newL : s.heap.get? s.heap.objs.size = none := size_none _
  have keep : ∀ b o, s.heap.get? b = some o → h'.get? b = some o := fun b o e => hsb.extBut b o (get_ne e newL) (Heap.get?_push_of_some _ e)
  conv => arg 3; arg 1; whnf
  refine IfExp_ (isTrue_plain (wpAny_Name (wpAny_loadName_free rfl rfl (c := cS) (by rfl) (v := .ref aS) (by obtain ⟨o, e, d⟩ := hC; exact ⟨o, keep _ _ e, d⟩) ?_) (by decide)))
  have hS' : IsL h' aS vs.toArray m := keep _ _ hS
  refine wpAny_truthy_list hS'.isList (by rw [List.size_toArray]; omega) ?_
  have le1 : ∀ k : Nat, s.toks ≤ s.toks + 1 + k := fun k => by omega
  rcases List.eq_nil_or_concat vs with e | ⟨ws, y, e⟩
  · subst e
    rw [show (!(([] : List Value).toArray).isEmpty) = false from rfl]
    refine Calls.Constant_str ?_
    exact h0 rfl h' _ _ (by show s.toks ≤ s.toks + 1 + 1 + 1 + 1; omega) keep
  · rw [List.concat_eq_append] at e
    subst e
    have hne : (!((ws ++ [y]).toArray).isEmpty) = true := by simp
    rw [hne]
    refine meth_eval (id := "list.pop") (wpAny_Name (wpAny_loadName_free rfl rfl (c := cS) (by rfl) (v := .ref aS) (by obtain ⟨o, e, d⟩ := hC; exact ⟨o, keep _ _ e, d⟩) ?_) (by decide)) (by rfl) (by rfl) (by rfl)
    refine ⟨fun pl Q' q => getMethod_list_of F.slot_list_pop F.type_list_pop hS'.isList ⟨_, hS', rfl⟩ q, ?_⟩
    refine P.pop_list (y := y) hS' (by simp) ?_ (by rw [List.size_toArray]; exact Nat.le_trans hz (by decide))
    have up := hS'.update fun xs => xs.eraseIdxIfInBounds ((ws ++ [y]).toArray.size - 1)
    have e2 : (ws ++ [y]).toArray.eraseIdxIfInBounds ((ws ++ [y]).toArray.size - 1) = ws.toArray := by
      simp only [Array.eraseIdxIfInBounds, List.size_toArray, List.length_append, List.length_singleton, Nat.add_sub_cancel]
      rw [dif_pos (by omega)]
      simp only [List.eraseIdx_toArray]
      rw [List.eraseIdx_append_of_length_le (Nat.le_refl _)]
      simp
    rw [e2] at up
    refine h1 ws y rfl _ _ (by show s.toks ≤ s.toks + 1 + 1 + 1; omega) (fun b o hb e => ?_) ⟨_, up⟩
    exact (Heap.SameBut.update ..).extBut b o hb (keep b o e)
theorem clo_code0 {G : G0} (o : G.Ok) {A : Around} {f : Addr} {ob : Obj} {fd : FuncData} {body : List Stmt} {k : Nat} {rs : List AV} {vs : List Value} {s : Shared} {O : List Addr} {β0 : List Item} {R : Result → Shared → Prop}
    (names : List Str) (rm : Rm A (k + 1)) (gl : Glob G NT s) (hv : VRs s.heap s.toks (fun a => NT a ∧ a ∉ O) rs vs) (ho : s.heap.get? f = some ob) (hd : ob.data = .func fd) (hcd : s.heap.CodeRec fd.code fd.qualname)
    (hb : fd.body = .stmts body) (hg : fd.globals = mainGlobals) (hbu : fd.builtins = builtinsNs) (hcell : ∀ x ∈ fd.scope.names, x.2 ≠ .cell) (hnn : names.Nodup) (hl : rs.length = names.length)
    (hbind : bindArgs fd ⟨vs, []⟩ = pure (names.zip vs)) (hk : ∀ x ∈ names, fd.scope.names.lookup x = some .local)
    (hO : ∀ a ∈ O, a ∉ Tb ∧ G.g.get? a = none) (hβ : ∀ i ∈ β0, (∀ b ∈ i.ad, b ∈ O) ∧ i.pr (fun a => NT a ∧ a ∉ O) s.heap s.toks) (hOβ : ∀ a ∈ O, ∃ i ∈ β0, a ∈ i.ad) (hsep : β0.Pairwise fun i j => ∀ b ∈ i.ad, b ∉ j.ad)
    (hTO : ∀ P : Addr → Prop, G.TO P s.heap → G.TO (fun a => P a ∧ a ∉ O) s.heap)
    (hbody : ∀ L, (fcC G (A.deeper (cloEnv fd L f)) fd L f O).Ok → Tri (fcC G (A.deeper (cloEnv fd L f)) fd L f O) (FS (fcC G (A.deeper (cloEnv fd L f)) fd L f O) s (names.zip rs) β0) body (fun fl s' => R (.ok (.ret (match fl with | .ret v => v | _ => .none))) s'))
    (hco : fd.scope.isCoroutine = false := by rfl) (hgen : fd.scope.isGenerator = false := by rfl) (hsk : fd.scope.kind = .function := by rfl) :
    codeAny (model G.prog G.w) A (.call (.ref f) ⟨vs, []⟩) R s := by
  have hlen : vs.length = names.length := by rw [← hv.length]; exact hl
  have T := gl.top o
  have keys : ((names.zip vs).map Prod.fst).Nodup := by rw [zip_keys hlen]; exact hnn
  refine codeAny_call_function (by have := rm.2.1; omega) ho hd hco hgen hb hcd ?_
  rw [hbind]
  refine wpAny_pure (wpAny_newFunctionEnv hcell (fun x hx => ?_) (fun h' hns hsb => ⟨T.nolimit.fresh _ hsb, codeAny_func ?_⟩) hsk)
  · have := List.mem_map_of_mem (f := Prod.fst) hx
    rw [zip_keys hlen] at this
    exact hk _ this
  · generalize hL : s.heap.objs.size = L at hns hsb ⊢
    have newL : s.heap.get? L = none := ge_none (by rw [hL]; exact Nat.le_refl _)
    have keep : ∀ b ob, s.heap.get? b = some ob → h'.get? b = some ob := fun b ob e => hsb.extBut b ob (fun q => by rw [q, newL] at e; cases e) (Heap.get?_push_of_some _ e)
    have muE : ∀ b, b ∈ MUs (fcC G (A.deeper (cloEnv fd L f)) fd L f O) β0 ↔ b = L ∨ b ∈ O := fun b => by
      rw [mem_MUs]
      constructor
      · rintro (h | ⟨i, hi, h⟩)
        · exact .inl (by simpa [FAd, fcC, cloEnv, newEnv] using h)
        · exact .inr ((hβ i hi).1 b h)
      · rintro (h | h)
        · exact .inl (by subst h; exact .head _)
        · obtain ⟨i, hi, q⟩ := hOβ b h
          exact .inr ⟨i, hi, q⟩
    have ltL : L ∉ Tb := fun q => by
      obtain ⟨ob', eo⟩ := o.tlive _ _ gl.tabs L q
      rw [newL] at eo; cases eo
    have pfU : ∀ b ob', NT b ∧ b ∉ O → s.heap.get? b = some ob' → PF (fcC G (A.deeper (cloEnv fd L f)) fd L f O) β0 b := fun b ob' p e => ⟨p.1, fun q => by
      rcases (muE b).mp q with q | q
      · rw [q, newL] at e; cases e
      · exact p.2 q⟩
    have W : (fcC G (A.deeper (cloEnv fd L f)) fd L f O).Ok := by
      refine ⟨o, (deeper_rm rm).le (Nat.zero_le _), ⟨hsk, fun x a h => (nomatch h), fun p hp => (nomatch hp), fun x a h => (nomatch h), .nil, fun p hp => (nomatch hp), fun b hb' => ⟨fun p => p.2 (mem_MUs.mpr (.inl hb')), ?_⟩⟩, hg, hbu, hO⟩
      rw [List.mem_singleton.mp hb']; exact ltL
    refine wpAny_mono (hbody L W (fun e s' => wpAny (model G.prog G.w) (A.deeper (cloEnv fd L f)) (leaving (cloEnv fd L f) e) (fun _ s'' => _) (fun e' s'' => _) s') { s with heap := h', toks := s.toks + (names.zip vs).length } ?_) (fun fl s' h => h) fun _ _ e => e
    refine ⟨(Kp.of (tk := s.toks + (names.zip vs).length) keep), fun P fr t => ?_, fun b hb' => ?_, fun b hb' => ?_, gl, ⟨⟨_, hns, fun x r e hx => ?_⟩, fun x a e => (nomatch e)⟩, fun i hi => ?_, hsep, fun i hi b hb' q => ?_⟩
    · refine o.tok _ _ _ (o.tmono _ _ _ (hTO P t) fun a ob' p e => ⟨p.1, fun q => ?_⟩) fun a ob' _ e => keep a ob' e
      rcases (muE a).mp q with q | q
      · rw [q, newL] at e; cases e
      · exact p.2 q
    · rcases (muE b).mp hb' with q | q
      · obtain ⟨ob', _, _, eo, _⟩ := hns
        exact ⟨ob', q ▸ eo⟩
      · obtain ⟨i, hi, q⟩ := hOβ b q
        obtain ⟨ob', eo⟩ := i.lv _ _ _ (hβ i hi).2 b q
        exact ⟨ob', keep b ob' eo⟩
    · rcases (muE b).mp hb' with q | q
      · exact .inr (q ▸ newL)
      · exact .inl q
    · obtain ⟨v, e', y⟩ := zip_look hv e
      exact ⟨v, reverse_look keys (mem_of_lookup e'), y.up (fun a ob' _ e => keep a ob' e) pfU (Nat.le_add_right _ _)⟩
    · exact i.fr _ _ _ _ _ _ (hβ i hi).2 (fun b ob' _ e => keep b ob' e) pfU (Nat.le_add_right _ _)
    · have q1 : b = L := by simpa [FAd, fcC, cloEnv, newEnv] using q
      obtain ⟨ob', eo⟩ := i.lv _ _ _ (hβ i hi).2 b hb'
      rw [q1, newL] at eo; cases eo
theorem clo_code {G : G0} (o : G.Ok) {A : Around} {f : Addr} {ob : Obj} {fd : FuncData} {sc : Scope} {body : List Stmt} {k : Nat} {rs : List AV} {vs : List Value} {s : Shared} {O : List Addr} {β0 : List Item} {R : Result → Shared → Prop}
    (names : List Str) (hsc : fd.scope = sc) (rm : Rm A (k + 1)) (gl : Glob G NT s) (hv : VRs s.heap s.toks (fun a => NT a ∧ a ∉ O) rs vs) (ho : s.heap.get? f = some ob) (hd : ob.data = .func fd) (hcd : s.heap.CodeRec fd.code fd.qualname)
    (hb : fd.body = .stmts body) (hg : fd.globals = mainGlobals) (hbu : fd.builtins = builtinsNs) (hcell : ∀ x ∈ sc.names, x.2 ≠ .cell) (hnn : names.Nodup) (hl : rs.length = names.length)
    (hbind : bindArgs fd ⟨vs, []⟩ = pure (names.zip vs)) (hk : ∀ x ∈ names, sc.names.lookup x = some .local)
    (hO : ∀ a ∈ O, a ∉ Tb ∧ G.g.get? a = none) (hβ : ∀ i ∈ β0, (∀ b ∈ i.ad, b ∈ O) ∧ i.pr (fun a => NT a ∧ a ∉ O) s.heap s.toks) (hOβ : ∀ a ∈ O, ∃ i ∈ β0, a ∈ i.ad) (hsep : β0.Pairwise fun i j => ∀ b ∈ i.ad, b ∉ j.ad)
    (hTO : ∀ P : Addr → Prop, G.TO P s.heap → G.TO (fun a => P a ∧ a ∉ O) s.heap)
    (hbody : ∀ L env, (fcCS G (A.deeper env) fd sc L f O).Ok → Tri (fcCS G (A.deeper env) fd sc L f O) (FS (fcCS G (A.deeper env) fd sc L f O) s (names.zip rs) β0) body (fun fl s' => R (.ok (.ret (match fl with | .ret v => v | _ => .none))) s'))
    (hco : fd.scope.isCoroutine = false := by rfl) (hgen : fd.scope.isGenerator = false := by rfl) (hsk : fd.scope.kind = .function := by rfl) :
    codeAny (model G.prog G.w) A (.call (.ref f) ⟨vs, []⟩) R s := by
  subst hsc
  exact clo_code0 o names rm gl hv ho hd hcd hb hg hbu hcell hnn hl hbind hk hO hβ hOβ hsep hTO (fun L W => hbody L _ W) hco hgen hsk
structure ChgX (G : G0) (O : List Addr) (s s' : Shared) : Prop where
  kp : Kp (Tb ++ O) s s'
  tabs : ∀ P : Addr → Prop, (∀ b, s.heap.get? b = none → P b) → G.TO P s.heap → G.TO P s'.heap
noncomputable def LexQ (G : G0) (a : LexA) (n : Int) (cs : List Nat) (s : Shared) : Prop := LexP G.w.params a n cs (fun b => NT b ∧ b ∉ a.ad) s.heap s.toks
structure LexOk (G : G0) (a : LexA) : Prop where
  nt : ∀ b ∈ a.ad, b ∉ Tb ∧ G.g.get? b = none
  nd : a.ad.Nodup
theorem lex_to {G : G0} (o : G.Ok) {a : LexA} {n cs Q} {h : Heap} {τ : Nat} (x : LexP G.w.params a n cs Q h τ) : ∀ P : Addr → Prop, G.TO P h → G.TO (fun b => P b ∧ b ∉ a.ad) h := fun P t => by
  obtain ⟨k1, k2, k3, k4, t', w, d2⟩ := x.iD
  obtain ⟨m, d3⟩ := x.iP
  obtain ⟨fd, sl, d4⟩ := x.iF
  obtain ⟨k5, d5⟩ := x.iE
  obtain ⟨pm, ctv, ob, vs, t'', d6, _⟩ := x.iR
  obtain ⟨oc, d7, d8⟩ := x.iC
  obtain ⟨ws, m', d9, d10⟩ := x.iS
  have t1 := o.tsep _ _ _ _ t x.iL (fun vs q => by cases q)
  have t2 := o.tsep _ _ _ _ t1 d2 (fun vs q => by cases q)
  have t3 := o.tsep _ _ _ _ t2 d4 (fun vs q => by cases q)
  have t4 := o.tsep _ _ _ _ t3 d5 (fun vs q => by cases q)
  have t5 := o.tsep _ _ _ _ t4 d6 (fun vs q => by cases q)
  have t6 := o.tsep _ _ _ _ t5 d7 (fun vs q => by rw [d8] at q; cases q)
  have t7 := o.tsep _ _ _ _ t6 d9 (fun vs q => by cases q)
  have t8 := o.tsep _ _ _ _ t7 d3 (fun vs q => by cases q)
  refine o.tmono _ _ _ t8 fun b _ p _ => ⟨p.1.1.1.1.1.1.1.1, fun q => ?_⟩
  simp only [LexA.ad, List.mem_cons, List.not_mem_nil, or_false] at q
  rcases q with q | q | q | q | q | q | q | q
  · exact p.1.1.1.1.1.1.1.2 q
  · exact p.1.1.1.1.1.1.2 q
  · exact p.1.1.1.1.1.2 q
  · exact p.1.1.1.1.2 q
  · exact p.1.1.1.2 q
  · exact p.1.1.2 q
  · exact p.1.2 q
  · exact p.2 q
theorem FS.toX {fc : FC} {s0 s : Shared} {σ β} (W : fc.Ok) (h : FS fc s0 σ β s) : ChgX fc.G fc.O s0 s := ⟨h.kp, fun P f t => W.g.tmono _ _ _ (h.tabs P f t) fun a _ p _ => p.1⟩
theorem LexA.neS {a : LexA} (nd : a.ad.Nodup) : a.aL ≠ a.aS ∧ a.dL ≠ a.aS ∧ a.aF ≠ a.aS ∧ a.dF ≠ a.aS ∧ a.aR ≠ a.aS ∧ a.cS ≠ a.aS ∧ a.aP ≠ a.aS := by
  simp only [LexA.ad, List.nodup_cons, List.mem_cons, List.not_mem_nil, or_false, not_or] at nd
  obtain ⟨h1, h2, h3, h4, h5, h6, h7, h8⟩ := nd
  exact ⟨h1.2.2.2.2.2.1, h2.2.2.2.2.1, h3.2.2.2.1, h4.2.2.1, h5.2.1, h6.1, fun e => h7 e.symm⟩
theorem LexA.neD {a : LexA} (nd : a.ad.Nodup) : a.aL ≠ a.dL ∧ a.aF ≠ a.dL ∧ a.dF ≠ a.dL ∧ a.aR ≠ a.dL ∧ a.cS ≠ a.dL ∧ a.aS ≠ a.dL ∧ a.aP ≠ a.dL := by
  simp only [LexA.ad, List.nodup_cons, List.mem_cons, List.not_mem_nil, or_false, not_or] at nd
  obtain ⟨h1, h2, h3, h4, h5, h6, h7, h8⟩ := nd
  exact ⟨h1.1, fun e => h2.1 e.symm, fun e => h2.2.1 e.symm, fun e => h2.2.2.1 e.symm, fun e => h2.2.2.2.1 e.symm, fun e => h2.2.2.2.2.1 e.symm, fun e => h2.2.2.2.2.2 e.symm⟩
theorem VRs.snoc {h : Heap} {τ : Nat} {P : Addr → Prop} {x : AV} {y : Value} : ∀ {xs : List AV} {ws : List Value}, VRs h τ P (xs ++ [x]) (ws ++ [y]) → VRs h τ P xs ws ∧ VR h τ P x y
  | [], [], .cons a .nil => ⟨.nil, a⟩
  | [], w :: ws, h => by
    have := h.length
    simp at this
  | x' :: xs, [], h => by
    have := h.length
    simp at this
  | x' :: xs, w :: ws, .cons a t => ⟨.cons a (VRs.snoc t).1, (VRs.snoc t).2⟩
noncomputable def hdS : List Nat → Str
  | [] => ""
  | c :: _ => ⟨#[c]⟩
theorem LexP.pop {P : Params} {a : LexA} {n : Int} {c : Nat} {cs : List Nat} {Q : Addr → Prop} {h h' : Heap} {τ τ' : Nat} (nd : a.ad.Nodup) (x : LexP P a n (c :: cs) Q h τ) (keep : ∀ b o, b ≠ a.aS → h.get? b = some o → h'.get? b = some o) (hQ : ¬ Q a.aS) {ws : List Value} {m : Nat} (hl : IsL h' a.aS ws.toArray m) (hv : VRs h τ Q (cs.reverse.map chA) ws) (ht : τ ≤ τ') : LexP P a n cs Q h' τ' := by
  obtain ⟨n1, n2, n3, n4, n5, n6, n7⟩ := LexA.neS nd
  obtain ⟨k1, k2, k3, k4, t, w, d2⟩ := x.iD
  obtain ⟨m', d3⟩ := x.iP
  obtain ⟨fd, sl, d4⟩ := x.iF
  obtain ⟨k5, d5⟩ := x.iE
  obtain ⟨pm, ctv, o, vs, t', d6, q, e1, e2, e3⟩ := x.iR
  obtain ⟨oc, d7, d8⟩ := x.iC
  exact ⟨keep _ _ n1 x.iL, ⟨_, _, _, _, _, _, keep _ _ n2 d2⟩, ⟨m', keep _ _ n7 d3⟩, ⟨fd, sl, keep _ _ n3 d4⟩, ⟨k5, keep _ _ n4 d5⟩, ⟨pm, ctv, o, vs, t', keep _ _ n5 d6, q, keep _ _ (fun e => hQ (e ▸ q)) e1, e2, e3⟩, ⟨oc, keep _ _ n6 d7, d8⟩, ⟨ws, m, hl, hv.atoms (chA_atoms _) ht⟩⟩
section
variable {fc : FC} {s0 : Shared} {σ : List (Str × AV)} {β : List Item} {Post : Flow → Shared → Prop} {rest : List Stmt}
theorem lex_off (W : fc.Ok) {a : LexA} {n cs} {l r : List Item} {s : Shared} (b : Addr) (hb : b ∈ a.ad) : ¬ PF fc (l ++ Item.lex fc.G.w.params a n cs :: r) b := fun p => p.2 (mem_MUs.mpr (.inr ⟨_, List.mem_append_right _ (.head _), hb⟩))
theorem EvX.read1 (g : GN fc.G) (W : fc.Ok) {a : LexA} (nd : a.ad.Nodup) {n : Int} {cs' : List Nat} (hz : cs'.length ≤ 1000000) {o : Expr} {p2 p3 p4 p5 : Pos} {k : Nat} (ho : EvE (cs fc s0 σ [Item.lex fc.G.w.params a n cs']) o (.raw (.ref a.aL)))
    (hb1 : attributeBase o "instream" fc.env (eval o fc.env) = eval o fc.env := by rfl) (hb2 : attributeBase (.Attribute o "instream" p2) "read" fc.env (eval (.Attribute o "instream" p2) fc.env) = eval (.Attribute o "instream" p2) fc.env := by rfl)
    (hgo : ∀ x r, letTemporaryGo o x r = pure () := by intro _ _; rfl) (hform : methodCallForm ([Expr.Constant (.int 1) k p4].length + 0) (backTo p5 (starEach [Expr.Constant (.int 1) k p4] fc.env)) [] = true := by rfl) (hline : (p3.endLine == p5.line) = true := by rfl)
    (hst : starEach [Expr.Constant (.int 1) k p4] fc.env = [(false, eval (Expr.Constant (.int 1) k p4) fc.env)] := by rfl) :
    EvX fc s0 σ [Item.lex fc.G.w.params a n cs'] (.Call (.Attribute (.Attribute o "instream" p2) "read" p3) [.Constant (.int 1) k p4] [] p5) (.str (hdS cs')) [Item.lex fc.G.w.params a n cs'.tail] := fun s Q E hs kk => by
  refine meth_evalG ?_ hb2 hform hline
  rw [arm_eval_Attribute, hb1]
  refine wpAny_bind (ho (cs_ok W) s hs _ _ fun v s1 x1 y1 => ?_)
  (first | ((first | replace y1 := VR.intI y1 | replace y1 := VR.strI y1); obtain ⟨_, rfl⟩ := y1) | ((first | replace y1 := VR.rawI y1 | replace y1 := VRs.nilI y1 | replace y1 := VR.boolI y1 | replace y1 := VR.noneI y1); subst y1) | cases y1)
  have hs1 := FS.ext W hs x1
  have X1 := FS.kin g.toGK rfl W hs1
  obtain ⟨k1, k2, k3, k4, t, w, I⟩ := lex_inst (hs1.box (Item.lex fc.G.w.params a n cs') (.head _))
  refine wpAny_bind (wpAny_standAt (wpAny_bind (wpAny_holding ?_)))
  refine get_value X1 I (ga_lex _) (f_ins _) rfl ?_
  refine wpAny_bind (wpAny_of_eq (hgo _ _) (wpAny_pure ?_))
  intro pl
  have hs2 : FS fc s0 σ [Item.lex fc.G.w.params a n cs'] { s1 with toks := s1.toks + 1 } := FS.ext W hs1 (Ext.tok (tk := s1.toks + 1))
  have L2 := hs2.box (Item.lex fc.G.w.params a n cs') (.head _)
  obtain ⟨fd, sl, d4⟩ := L2.iF
  obtain ⟨k5, d5⟩ := L2.iE
  refine fn_meth (t := 0) d4 d5 (v := .ref a.aR) (by rfl) rfl ?_
  have hs3 : FS fc s0 σ [Item.lex fc.G.w.params a n cs'] { s1 with toks := s1.toks + 1 + 1 } := FS.ext W hs2 (Ext.tok (s := { s1 with toks := s1.toks + 1 }) (tk := s1.toks + 1 + 1) (le := Nat.le_succ _))
  have hs4 : FS fc s0 σ [Item.lex fc.G.w.params a n cs'] { s1 with toks := s1.toks + 1 + 1 + 1 } := FS.ext W hs3 (Ext.tok (s := { s1 with toks := s1.toks + 1 + 1 }) (tk := s1.toks + 1 + 1 + 1) (le := Nat.le_succ _))
  have L4 := hs4.box (Item.lex fc.G.w.params a n cs') (.head _)
  obtain ⟨pm, ctv, oc, vs, t', d6, q, e1, e2, e3⟩ := L4.iR
  obtain ⟨ws, m, d9, d10⟩ := L4.iS
  have hp : (backTo p5 (starEach [Expr.Constant (.int 1) k p4] fc.env)).any (·.1) = false := backTo_any.trans (by rw [hst]; rfl)
  refine Calls.callWith_function (o := { cls := .type "function", data := .func (lamFd fc.G.w.params a.cS pm (.ref a.cd) ctv) }) (fd := lamFd fc.G.w.params a.cS pm (.ref a.cd) ctv) (evalArgs_plainL hp (wpAny_items_cons (wpAny_Constant_int (wpAny_items_nil ⟨⟨d6, rfl⟩, ?_⟩)) hst))
  have hlen : ws.length = cs'.length := by rw [← d10.length]; simp
  refine wpAny_call (lam_call (w := fc.G.w) (by have := W.rm.2.1; omega) ((hs4.glob W).top W.g).nolimit d6 ⟨a.cd, oc, vs, t', rfl, e1, e2, e3⟩ L4.iC d9 (by omega) (fun e h' tk t2 hle keep => ?_) fun us y e h' tk hle keep hl => ?_)
  · have hc : cs' = [] := by
      subst e
      exact List.length_eq_zero_iff.mp (by simpa using hlen.symm)
    subst hc
    have hs5 := FS.ext W hs4 (Ext.of (tk := tk) (le := hle) W.g keep)
    exact kk _ _ hs5 .str
  · obtain ⟨m', hl⟩ := hl
    subst e
    cases cs' with
    | nil => simp at hlen
    | cons c0 cs0 =>
      have e4 : ((c0 :: cs0).reverse.map chA) = cs0.reverse.map chA ++ [chA c0] := by simp
      rw [e4] at d10
      obtain ⟨v1, v2⟩ := VRs.snoc d10
      have hs5 := FS.set W (l := []) (r := []) (i := Item.lex fc.G.w.params a n (c0 :: cs0)) (j := Item.lex fc.G.w.params a n cs0) hs4 rfl ⟨h', tk, rfl⟩ (fun b ob hb e => keep b ob (fun q => hb (q ▸ by simp [Item.lex, LexA.ad])) e) (LexP.pop nd L4 keep (lex_off W (l := []) (r := []) (s := s) _ (by simp [LexA.ad])) hl v1 hle) hle
      cases v2
      exact kk _ _ hs5 .str
end
theorem LexP.line {P : Params} {a : LexA} {n n' : Int} {cs : List Nat} {Q : Addr → Prop} {h h' : Heap} {τ τ' : Nat} (nd : a.ad.Nodup) (x : LexP P a n cs Q h τ) (keep : ∀ b o, b ≠ a.dL → h.get? b = some o → h'.get? b = some o) (hQ : ¬ Q a.dL) (hd : ∃ k1 k2 k3 k4 t w, h'.get? a.dL = some (lexD P k1 k2 k3 k4 n' t a.aF w a.aP)) (ht : τ ≤ τ') : LexP P a n' cs Q h' τ' := by
  obtain ⟨n1, n2, n3, n4, n5, n6, n7⟩ := LexA.neD nd
  obtain ⟨m', d3⟩ := x.iP
  obtain ⟨fd, sl, d4⟩ := x.iF
  obtain ⟨k5, d5⟩ := x.iE
  obtain ⟨pm, ctv, o, vs, t', d6, q, e1, e2, e3⟩ := x.iR
  obtain ⟨oc, d7, d8⟩ := x.iC
  obtain ⟨ws, m, d9, d10⟩ := x.iS
  exact ⟨keep _ _ n1 x.iL, hd, ⟨m', keep _ _ n7 d3⟩, ⟨fd, sl, keep _ _ n2 d4⟩, ⟨k5, keep _ _ n3 d5⟩, ⟨pm, ctv, o, vs, t', keep _ _ n4 d6, q, keep _ _ (fun e => hQ (e ▸ q)) e1, e2, e3⟩, ⟨oc, keep _ _ n5 d7, d8⟩, ⟨ws, m, keep _ _ n6 d9, d10.atoms (chA_atoms _) ht⟩⟩
section
variable {fc : FC} {s0 : Shared} {σ : List (Str × AV)} {β : List Item} {Post : Flow → Shared → Prop} {rest : List Stmt}
theorem Tri.line (g : GN fc.G) (W : fc.Ok) {a : LexA} (nd : a.ad.Nodup) {n : Int} {cs' : List Nat} {o : Expr} {tp p pos : Pos} {k : Nat} (ho : EvE (cs fc s0 σ [Item.lex fc.G.w.params a n cs']) o (.raw (.ref a.aL)))
    (kk : Tri fc (FS fc s0 σ [Item.lex fc.G.w.params a (n + 1) cs']) rest Post) : Tri fc (FS fc s0 σ [Item.lex fc.G.w.params a n cs']) (.AugAssign (.Attribute o "lineno" tp) .Add (.Constant (.int 1) k p) pos :: rest) Post := Tri.st fun E s hs => by
  refine wpAny_AugAssign_AttributeAny ?_
  refine ho (cs_ok W) s hs _ _ fun v s1 x1 y1 => ?_
  (first | ((first | replace y1 := VR.intI y1 | replace y1 := VR.strI y1); obtain ⟨_, rfl⟩ := y1) | ((first | replace y1 := VR.rawI y1 | replace y1 := VRs.nilI y1 | replace y1 := VR.boolI y1 | replace y1 := VR.noneI y1); subst y1) | cases y1)
  have hs1 := FS.ext W hs x1
  have X1 := FS.kin g.toGK rfl W hs1
  obtain ⟨k1, k2, k3, k4, t, w, I⟩ := lex_inst (hs1.box (Item.lex fc.G.w.params a n cs') (.head _))
  refine get_value X1 I (ga_lex _) (f_line _) rfl ?_
  refine wpAny_Constant_int (iadd_int ?_)
  have hs2 : FS fc s0 σ [Item.lex fc.G.w.params a n cs'] { s1 with toks := s1.toks + 1 + 1 + 1 } := FS.ext W hs1 (Ext.tok (tk := s1.toks + 1 + 1 + 1))
  have X2 := FS.kin g.toGK rfl W hs2
  have L2 := hs2.box (Item.lex fc.G.w.params a n cs') (.head _)
  refine inst_set (s := { s1 with toks := s1.toks + 1 + 1 + 1 }) (w := fc.G.w) (od' := lexD fc.G.w.params k1 k2 k3 k4 (n + 1) (s1.toks + 1 + 1) a.aF w a.aP) (n := 4) X2 I rfl (sa_lex _) (by rfl) (by rfl) (by rfl) (by rfl) (by rfl) rfl (by simp) fun h' g' sb => ?_
  intro E'
  refine kk E' _ (FS.set W (l := []) (r := []) (i := Item.lex fc.G.w.params a n cs') (j := Item.lex fc.G.w.params a (n + 1) cs') hs2 rfl ⟨h', _, rfl⟩ (fun b ob hb e => sb.extBut b ob (fun q => hb (q ▸ by simp [Item.lex, LexA.ad])) e) (LexP.line nd L2 (fun b o hb e => sb.extBut b o hb e) (lex_off W (l := []) (r := []) (s := s) _ (by simp [LexA.ad])) ⟨_, _, _, _, _, _, g'⟩ (Nat.le_trans (Nat.le_succ _) (Nat.le_succ _))) (Nat.le_trans (Nat.le_succ _) (Nat.le_succ _)))
end
theorem FS.toLex {fc : FC} {s0 s : Shared} {σ : List (Str × AV)} (W : fc.Ok) {a : LexA} (hO : fc.O = a.ad) {n : Int} {cs' : List Nat} (h : FS fc s0 σ [Item.lex fc.G.w.params a n cs'] s) : ChgX fc.G a.ad s0 s ∧ LexQ fc.G a n cs' s := by
  refine ⟨hO ▸ h.toX W, (Item.lex fc.G.w.params a _ _).fr _ _ _ _ _ _ (h.box _ (.head _)) (fun _ _ _ e => e) (fun b o p _ => ⟨p.1, fun q => p.2 (mem_MUs.mpr (.inr ⟨_, .head _, q⟩))⟩) (Nat.le_refl _)⟩
noncomputable def lnS (n : Int) (cs : List Nat) : Int := if hdS cs == ("\n" : Str) then n + 1 else n
theorem bind_rc (P : Params) (v : Value) : bindArgs (fdAt P 106) ⟨[v], []⟩ = pure ((["self"] : List Str).zip [v]) := by kernel_rfl
theorem fn_rc {G : G0} (g : GN G) {a : LexA} (ok : LexOk G a) {A : Around} {s : Shared} {n : Int} {cs' : List Nat} {R : Result → Shared → Prop} (rm : Rm A 2) (gl : Glob G NT s) (hx : LexQ G a n cs' s) (hz : cs'.length ≤ 1000000)
    (k : ∀ s' t, ChgX G a.ad s s' → LexQ G a (lnS n cs') cs'.tail s' → R (.ok (.ret (.str (hdS cs') t))) s') : codeAny (model G.prog G.w) A (.call (.ref 106) ⟨[.ref a.aL], []⟩) R s := by
  refine clo_code g.toOk (sc := ?sc) (fd := fdAt G.w.params 106) (body := bodyAt G.w.params 106) (O := a.ad) (β0 := [Item.lex G.w.params a n cs']) (rs := [.raw (.ref a.aL)]) (k := 1) ["self"] ?hsc rm gl (.cons .raw .nil) (gl.keep _ _ (g.get (by rfl : (fr.heap_1 G.w.params).lookup 106 = some (objAt G.w.params 106)))) rfl (Heap.CodeRec.keeps (⟨105, _, _, _, rfl, g.get rfl, rfl, rfl⟩ : G.g.CodeRec (fdAt G.w.params 106).code (fdAt G.w.params 106).qualname) gl.keep) rfl rfl rfl ?hcell (by decide) rfl (bind_rc _ _) ?hk ok.nt ?hb ?hOb (List.pairwise_singleton _ _) (lex_to g.toOk hx) ?main
  case hsc => conv => lhs; whnf
  case hcell => exact noCell (by rfl)
  case hk =>
    intro x hx
    rw [List.mem_singleton.mp hx]; rfl
  case hb =>
    intro i hi
    rw [List.mem_singleton.mp hi]
    exact ⟨fun b hb => hb, hx⟩
  case hOb => exact fun b hb => ⟨_, .head _, hb⟩
  case main =>
  intro L env W
  conv => arg 3; whnf
  refine Tri.asgX W (r := .str (hdS cs')) (β' := [Item.lex G.w.params a n cs'.tail]) (EvX.read1 g W ok.nd hz nS) (.inl rfl) ?_
  refine Tri.if W (x := hdS cs' == ("\n" : Str)) (EvT.cmp (nL W) .str .eqS) (fun h1 => ?_) (fun h1 => ?_)
  · refine Tri.line g W ok.nd nS (Tri.back ?_)
    exact Tri.ret W (r := .str (hdS cs')) (nL W) fun s' v h y => by
      have e := FS.toLex W rfl h
      (first | ((first | replace y := VR.intI y | replace y := VR.strI y); obtain ⟨_, rfl⟩ := y) | ((first | replace y := VR.rawI y | replace y := VRs.nilI y | replace y := VR.boolI y | replace y := VR.noneI y); subst y) | cases y)
      exact k s' _ e.1 (by unfold lnS; rw [h1]; exact e.2)
  · refine Tri.back ?_
    exact Tri.ret W (r := .str (hdS cs')) (nL W) fun s' v h y => by
      have e := FS.toLex W rfl h
      (first | ((first | replace y := VR.intI y | replace y := VR.strI y); obtain ⟨_, rfl⟩ := y) | ((first | replace y := VR.rawI y | replace y := VRs.nilI y | replace y := VR.boolI y | replace y := VR.noneI y); subst y) | cases y)
      exact k s' _ e.1 (by unfold lnS; rw [h1]; exact e.2)
theorem LexP.reQ {P : Params} {a : LexA} {n : Int} {cs : List Nat} {Q Q' : Addr → Prop} {h : Heap} {τ : Nat} (x : LexP P a n cs Q h τ) (q : Q' a.cd) : LexP P a n cs Q' h τ := by
  obtain ⟨pm, ctv, o, vs, t', d6, _, e⟩ := x.iR
  obtain ⟨ws, m, d9, d10⟩ := x.iS
  exact ⟨x.iL, x.iD, x.iP, x.iF, x.iE, ⟨pm, ctv, o, vs, t', d6, q, e⟩, x.iC, ⟨ws, m, d9, d10.atoms (chA_atoms _)⟩⟩
section
variable {fc : FC} {s0 s s' : Shared} {σ : List (Str × AV)} {β : List Item} {Post : Flow → Shared → Prop} {rest : List Stmt}
theorem FS.backI (W : fc.Ok) {l r : List Item} {i j : Item} (e : i.ad = j.ad) (h : FS fc s0 σ (l ++ i :: r) s) (x : ChgX fc.G i.ad s s') (hp : j.pr (PF fc (l ++ i :: r)) s'.heap s'.toks) : FS fc s0 σ (l ++ j :: r) s' := by
  have im : i ∈ l ++ i :: r := List.mem_append_right _ (.head _)
  have inM : ∀ b ∈ i.ad, b ∈ MUs fc (l ++ i :: r) := fun b hb => mem_MUs.mpr (.inr ⟨i, im, hb⟩)
  have pf := PF_swap (fc := fc) (i := i) (j := j) (l := l) (r := r) e
  have mu := MUs_swap (fc := fc) (i := i) (j := j) (l := l) (r := r) e
  have pw := h.sep
  have oth : ∀ k, k ∈ l ∨ k ∈ r → ∀ b ∈ k.ad, b ∉ i.ad := by
    rintro k (hk | hk) b hb q
    · exact (List.pairwise_append.mp pw).2.2 k hk _ (.head _) b hb q
    · exact (List.pairwise_cons.mp (List.pairwise_append.mp pw).2.1).1 k hk b q hb
  have keep : ∀ b ob, b ∉ Tb → b ∉ i.ad → s.heap.get? b = some ob → s'.heap.get? b = some ob := fun b ob h1 h2 e => x.kp.keep b ob (fun q => (List.mem_append.mp q).elim h1 h2) e
  refine ⟨?_, fun P f t => ?_, fun b hb => ?_, fun b hb => h.new b (mu ▸ hb), h.gl0, ?_, fun k hk => ?_, ?_, ?_⟩
  · have le' := Nat.le_trans h.kp.le x.kp.le
    obtain ⟨h1, tk1, e1⟩ := h.kp.same
    obtain ⟨h2, tk2, e2⟩ := x.kp.same
    refine ⟨⟨h2, tk2, by rw [e2, e1]⟩, fun b ob n e => keep b ob (fun q => n (List.mem_append_left _ q)) (fun q => ?_) (h.kp.keep b ob n e), fun b ob e => ?_, le'⟩
    · rcases h.new b (inM b q) with p | p
      · exact n (List.mem_append_right _ p)
      · rw [p] at e; cases e
    · obtain ⟨o1, e1⟩ := h.kp.live b ob e
      exact x.kp.live b o1 e1
  · rw [← mu]
    exact x.tabs _ (fun b e => ⟨f b (h.kp.none e), fun q => by obtain ⟨ob, eo⟩ := h.live b q; rw [e] at eo; cases eo⟩) (h.tabs P f t)
  · obtain ⟨ob, e⟩ := h.live b (mu ▸ hb)
    exact x.kp.live b ob e
  · rw [← pf]
    refine h.vars.keep (fun b o hb e => keep b o (hb.elim (·.1) fun q => h.mut W (mem_MUs.mpr (.inl q))) (fun q => ?_) e) x.kp.le
    exact hb.elim (fun p => p.2 (inM b q)) fun p => h.offF _ im b q p
  · rw [← pf]
    have go : k ∈ l ∨ k ∈ r → k.pr (PF fc (l ++ i :: r)) s'.heap s'.toks := fun hk => by
      have km : k ∈ l ++ i :: r := hk.elim (List.mem_append_left _) fun q => List.mem_append_right _ (.tail _ q)
      refine k.fr _ _ _ _ _ _ (h.box k km) (fun b o hb e => keep b o (hb.elim (·.1) fun q => h.mut W (mem_MUs.mpr (.inr ⟨k, km, q⟩))) (fun q => hb.elim (fun p => p.2 (inM b q)) fun p => oth k hk b p q) e) (fun b o p _ => p) x.kp.le
    rcases List.mem_append.mp hk with hk | hk
    · exact go (.inl hk)
    · rcases List.mem_cons.mp hk with rfl | hk
      · exact hp
      · exact go (.inr hk)
  · obtain ⟨p1, p2, p3⟩ := List.pairwise_append.mp pw
    obtain ⟨p4, p5⟩ := List.pairwise_cons.mp p2
    refine List.pairwise_append.mpr ⟨p1, List.pairwise_cons.mpr ⟨fun k hk b hb => p4 k hk b (e ▸ hb), p5⟩, fun k hk k' hk' b hb q => ?_⟩
    rcases List.mem_cons.mp hk' with rfl | hk'
    · exact p3 k hk _ (.head _) b hb (e ▸ q)
    · exact p3 k hk k' (.tail _ hk') b hb q
  · intro k hk b hb
    rcases List.mem_append.mp hk with hk | hk
    · exact h.offF k (List.mem_append_left _ hk) b hb
    · rcases List.mem_cons.mp hk with rfl | hk
      · exact h.offF i im b (e ▸ hb)
      · exact h.offF k (List.mem_append_right _ (.tail _ hk)) b hb
theorem FS.lexOk (W : fc.Ok) {l r : List Item} {a : LexA} {n cs'} (h : FS fc s0 σ (l ++ Item.lex fc.G.w.params a n cs' :: r) s) (nd : a.ad.Nodup) : LexOk fc.G a := by
  have im : Item.lex fc.G.w.params a n cs' ∈ l ++ Item.lex fc.G.w.params a n cs' :: r := List.mem_append_right _ (.head _)
  refine ⟨fun b hb => ⟨h.mut W (mem_MUs.mpr (.inr ⟨_, im, hb⟩)), ?_⟩, nd⟩
  rcases h.new b (mem_MUs.mpr (.inr ⟨_, im, hb⟩)) with p | p
  · exact (W.ot b p).2
  · cases e : fc.G.g.get? b with
    | none => rfl
    | some o => have := h.gl0.keep _ _ e; rw [p] at this; cases this
theorem FS.lexQ (W : fc.Ok) {l r : List Item} {a : LexA} {n cs'} (h : FS fc s0 σ (l ++ Item.lex fc.G.w.params a n cs' :: r) s) : LexQ fc.G a n cs' s ∧ PF fc (l ++ Item.lex fc.G.w.params a n cs' :: r) a.cd := by
  have im : Item.lex fc.G.w.params a n cs' ∈ l ++ Item.lex fc.G.w.params a n cs' :: r := List.mem_append_right _ (.head _)
  have x := h.box _ im
  have q : PF fc (l ++ Item.lex fc.G.w.params a n cs' :: r) a.cd := by obtain ⟨_, _, _, _, _, _, q, _⟩ := x.iR; exact q
  exact ⟨x.reQ ⟨q.1, fun p => q.2 (mem_MUs.mpr (.inr ⟨_, im, p⟩))⟩, q⟩
theorem FS.backL (W : fc.Ok) {l r : List Item} {a : LexA} {n n' : Int} {cs' cs2 : List Nat} (h : FS fc s0 σ (l ++ Item.lex fc.G.w.params a n cs' :: r) s) (x : ChgX fc.G a.ad s s') (hp : LexQ fc.G a n' cs2 s') : FS fc s0 σ (l ++ Item.lex fc.G.w.params a n' cs2 :: r) s' :=
  FS.backI W (i := Item.lex fc.G.w.params a n cs') (j := Item.lex fc.G.w.params a n' cs2) rfl h x (hp.reQ (FS.lexQ W h).2)
noncomputable def Item.ci (I m : Addr) (self : Value) (ended : Bool) : Item where
  ad := [I]
  pr := fun P h τ => (∃ t, h.get? I = some (if ended then ciEnd else ciObj m t)) ∧ P m ∧ h.get? m = some (methodObj (.ref 106) self)
  fr := fun P P' h h' τ τ' ⟨⟨t, e⟩, p, em⟩ hk hp ht => ⟨⟨t, hk I _ (.inr (.head _)) e⟩, hp m _ p em, hk m _ (.inl p) em⟩
  lv := fun P h τ ⟨⟨t, e⟩, _⟩ b hb => ⟨_, List.mem_singleton.mp hb ▸ e⟩
end
section
variable {c : Cx}
theorem OpR.iaddS {x y : Str} (h : x.length + y.length ≤ 1000000) : OpR c (inplaceOp .Add) (.str x) (.str y) (.str (x ++ y)) := by
  intro o s v1 v2 hs y1 y2 Q E k; (first | ((first | replace y1 := VR.intI y1 | replace y1 := VR.strI y1); obtain ⟨_, rfl⟩ := y1) | ((first | replace y1 := VR.rawI y1 | replace y1 := VRs.nilI y1 | replace y1 := VR.boolI y1 | replace y1 := VR.noneI y1); subst y1) | cases y1); (first | ((first | replace y2 := VR.intI y2 | replace y2 := VR.strI y2); obtain ⟨_, rfl⟩ := y2) | ((first | replace y2 := VR.rawI y2 | replace y2 := VRs.nilI y2 | replace y2 := VR.boolI y2 | replace y2 := VR.noneI y2); subst y2) | cases y2)
  refine wpAny_mono (wpAny_with_toks (Nat.le_refl s.toks) (PyProof.Rows.iadd_str (Q := fun v s' => s.toks ≤ s'.toks → Q v s') (fun t' tk hle => k _ _ (Ext.tok (tk := tk) (le := hle)) .str) (Nat.le_trans h (by decide)))) (fun _ _ h => h) fun _ _ h => h
theorem OpR.addS {x y : Str} (h : x.length + y.length ≤ 1000000) : OpR c (binaryOp .Add) (.str x) (.str y) (.str (x ++ y)) := by
  intro o s v1 v2 hs y1 y2 Q E k; (first | ((first | replace y1 := VR.intI y1 | replace y1 := VR.strI y1); obtain ⟨_, rfl⟩ := y1) | ((first | replace y1 := VR.rawI y1 | replace y1 := VRs.nilI y1 | replace y1 := VR.boolI y1 | replace y1 := VR.noneI y1); subst y1) | cases y1); (first | ((first | replace y2 := VR.intI y2 | replace y2 := VR.strI y2); obtain ⟨_, rfl⟩ := y2) | ((first | replace y2 := VR.rawI y2 | replace y2 := VRs.nilI y2 | replace y2 := VR.boolI y2 | replace y2 := VR.noneI y2); subst y2) | cases y2)
  refine wpAny_mono (wpAny_with_toks (Nat.le_refl s.toks) (PyProof.Rows.add_str (Q := fun v s' => s.toks ≤ s'.toks → Q v s') (fun t' tk hle => k _ _ (Ext.tok (tk := tk) (le := hle)) .str) (Nat.le_trans h (by decide)))) (fun _ _ h => h) fun _ _ h => h
end
section
variable {fc : FC} {s0 : Shared} {σ : List (Str × AV)} {β : List Item} {Post : Flow → Shared → Prop} {rest : List Stmt}
theorem EvE.lexWs (g : GN fc.G) (W : fc.Ok) {a : LexA} {n : Int} {cs' : List Nat} (hb : Item.lex fc.G.w.params a n cs' ∈ β) {o : Expr} {p : Pos} (ho : EvE (cs fc s0 σ β) o (.raw (.ref a.aL))) (hb1 : attributeBase o "whitespace" fc.env (eval o fc.env) = eval o fc.env := by rfl) (hgo : ∀ x r, letTemporaryGo o x r = pure () := by intro _ _; rfl) :
    EvE (cx fc s0 σ β) (.Attribute o "whitespace" p) (.str ws4) := fun _ s hs Q E kk => by
  show wpAny (model fc.G.prog fc.G.w) fc.A (eval (.Attribute o _ p) fc.env) Q E s
  rw [arm_eval_Attribute, hb1]
  refine wpAny_bind (ho (cs_ok W) s hs _ _ fun v s1 x1 y1 => ?_)
  (first | ((first | replace y1 := VR.intI y1 | replace y1 := VR.strI y1); obtain ⟨_, rfl⟩ := y1) | ((first | replace y1 := VR.rawI y1 | replace y1 := VRs.nilI y1 | replace y1 := VR.boolI y1 | replace y1 := VR.noneI y1); subst y1) | cases y1)
  have hs1 := FS.ext W hs x1
  obtain ⟨k1, k2, k3, k4, t, w, I⟩ := lex_inst (hs1.box _ hb)
  refine wpAny_bind (wpAny_standAt (wpAny_bind (wpAny_holding ?_)))
  refine get_value (FS.kin g.toGK rfl W hs1) I (ga_lex _) (f_ws _) rfl ?_
  exact wpAny_bind (wpAny_of_eq (hgo _ _) (wpAny_pure (kk _ _ (x1.trans (Ext.tok (tk := s1.toks + 1))) .str)))
theorem EvE.lexPb (g : GN fc.G) (W : fc.Ok) {a : LexA} {n : Int} {cs' : List Nat} (hb : Item.lex fc.G.w.params a n cs' ∈ β) {o : Expr} {p : Pos} (ho : EvE (cs fc s0 σ β) o (.raw (.ref a.aL))) (hb1 : attributeBase o "pushback" fc.env (eval o fc.env) = eval o fc.env := by rfl) (hgo : ∀ x r, letTemporaryGo o x r = pure () := by intro _ _; rfl) :
    EvE (cx fc s0 σ β) (.Attribute o "pushback" p) (.list []) := fun _ s hs Q E kk => by
  show wpAny (model fc.G.prog fc.G.w) fc.A (eval (.Attribute o _ p) fc.env) Q E s
  rw [arm_eval_Attribute, hb1]
  refine wpAny_bind (ho (cs_ok W) s hs _ _ fun v s1 x1 y1 => ?_)
  (first | ((first | replace y1 := VR.intI y1 | replace y1 := VR.strI y1); obtain ⟨_, rfl⟩ := y1) | ((first | replace y1 := VR.rawI y1 | replace y1 := VRs.nilI y1 | replace y1 := VR.boolI y1 | replace y1 := VR.noneI y1); subst y1) | cases y1)
  have hs1 := FS.ext W hs x1
  obtain ⟨k1, k2, k3, k4, t, w, I⟩ := lex_inst (hs1.box _ hb)
  refine wpAny_bind (wpAny_standAt (wpAny_bind (wpAny_holding ?_)))
  refine get_value (FS.kin g.toGK rfl W hs1) I (ga_lex _) (f_pb _) rfl ?_
  have hs2 : FS fc s0 σ β { s1 with toks := s1.toks + 1 } := FS.ext W hs1 (Ext.tok (tk := s1.toks + 1))
  obtain ⟨m, d3⟩ := (hs2.box _ hb).iP
  refine wpAny_bind (wpAny_of_eq (hgo _ _) (wpAny_pure (kk _ _ (x1.trans (Ext.tok (tk := s1.toks + 1))) (.list (vs := []) ⟨?_, fun q => ?_⟩ d3.isList .nil))))
  · exact hs2.mut W (mem_MUs.mpr (.inr ⟨_, hb, by simp [Item.lex, LexA.ad]⟩))
  · exact hs2.offF _ hb a.aP (by simp [Item.lex, LexA.ad]) (by simpa [MUs] using q)
theorem EvE.lexLn (g : GN fc.G) (W : fc.Ok) {a : LexA} {n : Int} {cs' : List Nat} (hb : Item.lex fc.G.w.params a n cs' ∈ β) {o : Expr} {p : Pos} (ho : EvE (cs fc s0 σ β) o (.raw (.ref a.aL))) (hb1 : attributeBase o "lineno" fc.env (eval o fc.env) = eval o fc.env := by rfl) (hgo : ∀ x r, letTemporaryGo o x r = pure () := by intro _ _; rfl) :
    EvE (cx fc s0 σ β) (.Attribute o "lineno" p) (.int n) := fun _ s hs Q E kk => by
  show wpAny (model fc.G.prog fc.G.w) fc.A (eval (.Attribute o _ p) fc.env) Q E s
  rw [arm_eval_Attribute, hb1]
  refine wpAny_bind (ho (cs_ok W) s hs _ _ fun v s1 x1 y1 => ?_)
  (first | ((first | replace y1 := VR.intI y1 | replace y1 := VR.strI y1); obtain ⟨_, rfl⟩ := y1) | ((first | replace y1 := VR.rawI y1 | replace y1 := VRs.nilI y1 | replace y1 := VR.boolI y1 | replace y1 := VR.noneI y1); subst y1) | cases y1)
  have hs1 := FS.ext W hs x1
  obtain ⟨k1, k2, k3, k4, t, w, I⟩ := lex_inst (hs1.box _ hb)
  refine wpAny_bind (wpAny_standAt (wpAny_bind (wpAny_holding ?_)))
  refine get_value (FS.kin g.toGK rfl W hs1) I (ga_lex _) (f_line _) rfl ?_
  exact wpAny_bind (wpAny_of_eq (hgo _ _) (wpAny_pure (kk _ _ (x1.trans (Ext.tok (tk := s1.toks + 1))) .int)))
theorem callB {M : Model} {A : Around} {E : Value → Shared → Prop} {s : Shared} {env : Env} {f : Value} {first : List Value} {es : List Expr} {pos : Pos} {Q : Value → Shared → Prop} (hn : ∀ a, f ≠ .ref a) (hp : (backTo pos (starEach es env)).any (·.1) = false)
    (h : wpAny M A (spliced (backTo pos (starEach es env))) (fun vs s' => wpAny M A (call f (first ++ vs) []) Q E s') E s) : wpAny M A (callWith pos f first (backTo pos (starEach es env)) []) Q E s := by
  unfold callWith
  refine wpAny_bind (wpAny_holding (evalArgs_plainL hp (wpAny_mono h (fun vs s1 h1 => wpAny_bind (wpAny_standAt ?_)) fun _ _ e => e)))
  simp only [hp, List.any_nil, Bool.or_false]
  have kk : keeperOf f = pure .machine := by
    unfold keeperOf
    split
    · rename_i a; exact absurd rfl (hn a)
    · rfl
  rw [kk]
  refine wpAny_bind (wpAny_pure ?_)
  exact wpAny_bind (wpAny_mono h1 (fun r s₂ hr => wpAny_bind (wpAny_holding (wpAny_point (wpAny_pure hr)))) fun _ _ x => x)
theorem Tri.fiter (g : GN fc.G) (W : fc.Ok) {a : LexA} {n : Int} {cs' : List Nat} (hb : Item.lex fc.G.w.params a n cs' ∈ β) {o : Expr} {x : Str} {px pi p1 p2 pc pos : Pos} {k : Nat} (hit : EvE (cx fc s0 σ β) (.Name "iter" pi) (.raw (.builtin "iter"))) (ho : EvE (cs fc s0 σ β) o (.raw (.ref a.aL))) (hx : Kd fc.env fc.own x)
    (kk : ∀ I m, Tri fc (FS fc s0 ((x, .raw (.ref I)) :: σ) (Item.ci I m (.ref a.aL) false :: β)) rest Post) (hb1 : attributeBase o "_read_char" fc.env (eval o fc.env) = eval o fc.env := by rfl) (hgo : ∀ x r, letTemporaryGo o x r = pure () := by intro _ _; rfl)
    (hst : starEach [Expr.Attribute o "_read_char" p1, .Constant (.str "") k p2] fc.env = [(false, eval (Expr.Attribute o "_read_char" p1) fc.env), (false, eval (.Constant (.str "") k p2) fc.env)] := by rfl)
    (hst2 : starEach [(.Constant (.str "") k p2 : Expr)] fc.env = [(false, eval (.Constant (.str "") k p2) fc.env)] := by rfl)
    (hsw : swapsWith (.Call (.Name "iter" pi) [.Attribute o "_read_char" p1, .Constant (.str "") k p2] [] pc) (some (.Name x px)) pos.line fc.env = pure false := by rfl) :
    Tri fc (FS fc s0 σ β) (.Assign [.Name x px] (.Call (.Name "iter" pi) [.Attribute o "_read_char" p1, .Constant (.str "") k p2] [] pc) pos :: rest) Post := Tri.asg hsw fun E s hs => by
  rw [arm_eval_Call_Name']
  refine wpAny_bind (hit (cx_ok W) s hs _ _ fun v s1 x1 y1 => ?_)
  (first | ((first | replace y1 := VR.intI y1 | replace y1 := VR.strI y1); obtain ⟨_, rfl⟩ := y1) | ((first | replace y1 := VR.rawI y1 | replace y1 := VRs.nilI y1 | replace y1 := VR.boolI y1 | replace y1 := VR.noneI y1); subst y1) | cases y1)
  have hs1 := FS.ext W hs x1
  refine callB (fun a e => by cases e) (backTo_any.trans (by rw [hst]; rfl)) (wpAny_items_cons ?_ (by rw [hst, hst2]))
  rw [arm_eval_Attribute, hb1]
  refine wpAny_bind (ho (cs_ok W) s1 hs1 _ _ fun v s2 x2 y2 => ?_)
  (first | ((first | replace y2 := VR.intI y2 | replace y2 := VR.strI y2); obtain ⟨_, rfl⟩ := y2) | ((first | replace y2 := VR.rawI y2 | replace y2 := VRs.nilI y2 | replace y2 := VR.boolI y2 | replace y2 := VR.noneI y2); subst y2) | cases y2)
  have hs2 := FS.ext W hs1 x2
  obtain ⟨k1, k2, k3, k4, t, w, I⟩ := lex_inst (hs2.box _ hb)
  refine wpAny_bind (wpAny_standAt (wpAny_bind (wpAny_holding ?_)))
  refine get_bind (FS.kin g.toGK rfl W hs2) I (ga_lex _) (f_rc _) (hk_lex _) ?_
  have hs3 : FS fc s0 σ β { s2 with toks := s2.toks + 1 } := FS.ext W hs2 (Ext.tok (tk := s2.toks + 1))
  refine wpAny_call (PySem.W.fn_get (p := 106) (FS.kin g.toGK rfl W hs3) (by rfl) ?_)
  refine wpAny_pure (wpAny_bind (wpAny_of_eq (hgo _ _) (wpAny_pure ?_)))
  refine wpAny_items_cons (Calls.Constant_str (wpAny_items_nil ?_)) hst2
  have hm : ((s2.heap.push (methodObj (.ref 106) (.ref a.aL)))).get? s2.heap.objs.size = some (methodObj (.ref 106) (.ref a.aL)) := Heap.get?_push_size _ rfl
  refine call_iter2 (s := { s2 with heap := s2.heap.push (methodObj (.ref 106) (.ref a.aL)), toks := s2.toks + 1 + 1 }) hm rfl ?_
  have x4 : Ext fc.G s2 { s2 with heap := (s2.heap.push (methodObj (.ref 106) (.ref a.aL))).push (ciObj s2.heap.objs.size (s2.toks + 1)), toks := s2.toks + 1 + 1 } := Ext.of (tk := s2.toks + 1 + 1) W.g (fun _ _ e => Heap.get?_push_of_some _ (Heap.get?_push_of_some _ e))
  have newI : s2.heap.get? (s2.heap.push (methodObj (.ref 106) (.ref a.aL))).objs.size = none := by rw [Heap.size_push]; exact ge_none (Nat.le_succ _)
  have hs4 := FS.add W hs2 (Item.ci (s2.heap.push (methodObj (.ref 106) (.ref a.aL))).objs.size s2.heap.objs.size (.ref a.aL) false) (fun b hb => by rw [List.mem_singleton.mp hb]; exact newI) x4 ⟨⟨_, Heap.get?_push_size _ rfl⟩, ?_, Heap.get?_push_of_some _ hm⟩ fun P f t => ?_
  · exact hs4.store W hx .raw fun s5 hs5 E' => kk _ _ E' s5 hs5
  · refine PF_cons.mpr ⟨hs2.fresh W (size_none _), fun q => ?_⟩
    have := List.mem_singleton.mp q
    rw [Heap.size_push] at this
    exact absurd this (Nat.ne_of_lt (Nat.lt_succ_self _))
  · refine W.g.tok _ _ _ (W.g.tmono _ (fun b => (P b ∧ b ∉ MUs fc β) ∧ b ∉ [(s2.heap.push (methodObj (.ref 106) (.ref a.aL))).objs.size]) _ (hs2.tabs P f t) fun b ob p e => ⟨p, fun q => ?_⟩) fun b ob _ e => Heap.get?_push_of_some _ (Heap.get?_push_of_some _ e)
    rw [List.mem_singleton.mp q, newI] at e; cases e
end
noncomputable def st1 (c : Nat) : Str := ⟨#[c]⟩
noncomputable def lnc (n : Int) (c : Nat) : Int := if st1 c == ("\n" : Str) then n + 1 else n
noncomputable def mzC (cs : List Nat) (en : Bool) : Nat := 2 * cs.length + (if en then 0 else 1)
theorem in1_rm {A : Around} {k : Nat} (h : Rm A (k + 1)) : Rm A.in1 k := ⟨h.1, by have := h.2.1; show A.depth + 30 + k < _; omega, by have := h.2.2; show A.units + 1 + 400 + 3 * k < _; omega⟩
theorem hdS_cons {c : Nat} {cs : List Nat} : decide (("" : Str) = hdS (c :: cs)) = false := by
  rw [decide_eq_false_iff_not]
  intro e
  have := congrArg (fun x : Str => x.cps.size) e
  simp [hdS] at this
  cases this
noncomputable def CPost (fc : FC) (s0 : Shared) (σs : List Nat → List (Str × AV)) (βs : Bool → Int → List Nat → List Item) (J : List Nat → Int → List Nat → Bool → Prop) (z : Nat) (Post : Flow → Shared → Prop) : Flow → Shared → Prop := fun f s => match f with
  | .next => ∃ tok n cs en, mzC cs en < z ∧ J tok n cs en ∧ FS fc s0 (σs tok) (βs en n cs) s
  | .cont => ∃ tok n cs en, mzC cs en < z ∧ J tok n cs en ∧ FS fc s0 (σs tok) (βs en n cs) s
  | .brk => False
  | .ret v => Post (.ret v) s
section
variable {fc : FC} {s0 : Shared} {σ : List (Str × AV)} {β : List Item} {Post : Flow → Shared → Prop} {rest : List Stmt}
theorem Tri.forC (g : GN fc.G) (W : fc.Ok) (rm : Rm fc.A 3) {a : LexA} (nd : a.ad.Nodup) {I m : Addr} {x : Str} {px pos : Pos} {iter : Expr} {body : List Stmt} {tok0 : List Nat} {n0 : Int} {cs0 : List Nat} {en0 : Bool}
    (σs : List Nat → List (Str × AV)) (J : List Nat → Int → List Nat → Bool → Prop) (hi : EvE (cs fc s0 σ [Item.ci I m (.ref a.aL) en0, Item.lex fc.G.w.params a n0 cs0]) iter (.raw (.ref I))) (hs0 : ∀ p ∈ σs tok0, σ.lookup p.1 = some p.2) (hx : Kd fc.env fc.own x)
    (hJ0 : J tok0 n0 cs0 en0) (hJe : ∀ tok n cs', J tok n cs' true → cs' = []) (hJz : ∀ tok n cs' en, J tok n cs' en → cs'.length ≤ 1000000)
    (hbody : ∀ tok n c cs', J tok n (c :: cs') false → Tri fc (FS fc s0 ((x, .str (st1 c)) :: σs tok) [Item.ci I m (.ref a.aL) false, Item.lex fc.G.w.params a (lnc n c) cs']) body
      (CPost fc s0 σs (fun en n cs' => [Item.ci I m (.ref a.aL) en, Item.lex fc.G.w.params a n cs']) J (mzC (c :: cs') false) Post))
    (hend : ∀ tok n en, J tok n [] en → Tri fc (FS fc s0 (σs tok) [Item.ci I m (.ref a.aL) true, Item.lex fc.G.w.params a n []]) rest Post) (hs : ∀ x, foldedSetIterable iter fc.env x = pure x := by intro _; rfl) (hgo : ∀ it v, letOwnedTupleGo (.Name x px) it v = pure () := by intro _ _; rfl) :
    Tri fc (FS fc s0 σ [Item.ci I m (.ref a.aL) en0, Item.lex fc.G.w.params a n0 cs0]) (.For (.Name x px) iter body [] pos :: rest) Post := Tri.st fun E s h0 => by
  refine wpAny_For ?_ hs
  refine hi (cs_ok W) s h0 _ _ fun v s1 x1 y1 => ?_
  (first | ((first | replace y1 := VR.intI y1 | replace y1 := VR.strI y1); obtain ⟨_, rfl⟩ := y1) | ((first | replace y1 := VR.rawI y1 | replace y1 := VRs.nilI y1 | replace y1 := VR.boolI y1 | replace y1 := VR.noneI y1); subst y1) | cases y1)
  have h1 := FS.ext W h0 x1
  have itAt : ∀ {en n cs' σ' s'}, FS fc s0 σ' [Item.ci I m (.ref a.aL) en, Item.lex fc.G.w.params a n cs'] s' → ∃ ob, s'.heap.get? I = some ob ∧ ob.cls = .type "callable_iterator" := fun {en n cs' σ' s'} h => by
    obtain ⟨⟨t, e⟩, _⟩ := h.box _ (.head _)
    exact ⟨_, e, by cases en <;> rfl⟩
  obtain ⟨ob, e1, e2⟩ := itAt h1
  refine ci_iter (t := 0) (m := 0) e1 e2 ?_
  refine codeAny_forLoop_any (fun k s => ∃ tok n cs' en, k = mzC cs' en ∧ J tok n cs' en ∧ FS fc s0 (σs tok) [Item.ci I m (.ref a.aL) en, Item.lex fc.G.w.params a n cs'] s) ?_ _ ⟨tok0, n0, cs0, en0, rfl, hJ0, h1.sub hs0⟩
  rintro k s ⟨tok, n, cs', en, rfl, hJ, h⟩
  have done : ∀ s' n', FS fc s0 (σs tok) [Item.ci I m (.ref a.aL) true, Item.lex fc.G.w.params a n' []] s' → (∀ n', J tok n' [] en → True) → (J tok n' [] en) → wpAny (model fc.G.prog fc.G.w) fc.A (execs [] fc.env) (fun f s₃ => Sq fc rest Post f s₃) (notedBy (model fc.G.prog fc.G.w) fc.A fc.env fun e s' => cameBackBy (model fc.G.prog fc.G.w) fc.A fc.env E e s') s' := fun s' n' h' _ hJ' =>
    wpAny_execs_nil fun E' => hend tok n' en hJ' E' s' h'
  obtain ⟨⟨t, eI⟩, pm, em⟩ := h.box _ (.head _)
  cases en with
  | true =>
    have hcs := hJe _ _ _ hJ
    subst hcs
    refine ci_ended W.rm.1 eI fun h' keep => ?_
    have h2 := FS.ext W h (Ext.of (tk := s.toks) W.g keep)
    exact done _ n h2 (fun _ _ => trivial) hJ
  | false =>
    have ok := FS.lexOk W (l := [Item.ci I m (.ref a.aL) false]) (r := []) h nd
    have lq := FS.lexQ W (l := [Item.ci I m (.ref a.aL) false]) (r := []) h
    have gl := (h.glob W).wk W.g (P' := NT) fun a p => p.1
    have f106 := gl.keep _ _ (g.get (by rfl : (fr.heap_1 fc.G.w.params).lookup 106 = some (objAt fc.G.w.params 106)))
    refine ci_next W.rm.1 eI em f106 (fd := fdAt fc.G.w.params 106) rfl (fn_rc g ok (in1_rm rm) gl lq.1 (hJz _ _ _ _ hJ) fun s' t' cx lq' => ?_)
    have h2 := FS.backL W (l := [Item.ci I m (.ref a.aL) false]) (r := []) h cx lq'
    have offI : I ∉ a.ad := fun q => (List.pairwise_cons.mp h.sep).1 _ (.head _) I (.head _) q
    have keepX : ∀ b ob, b ∉ Tb → b ∉ a.ad → s.heap.get? b = some ob → s'.heap.get? b = some ob := fun b ob p q e => cx.kp.keep b ob (fun r => (List.mem_append.mp r).elim p q) e
    have hIt : I ∉ Tb := h.mut W (mem_MUs.mpr (.inr ⟨_, .head _, .head _⟩))
    refine ⟨hdS cs', t', rfl, keepX _ _ hIt offI eI, keepX _ _ pm.1 (fun q => pm.2 (mem_MUs.mpr (.inr ⟨_, .tail _ (.head _), q⟩))) em, gl.keep 106 _ (g.get (by rfl : (fr.heap_1 fc.G.w.params).lookup 106 = some (objAt fc.G.w.params 106))) |> keepX _ _ (by decide) (fun q => by have := (ok.nt _ q).2; rw [g.get (by rfl : (fr.heap_1 fc.G.w.params).lookup 106 = some (objAt fc.G.w.params 106))] at this; cases this), ?_⟩
    cases cs' with
    | nil =>
      rw [if_pos (by rfl)]
      intro h' gI keep
      have hl : lnS n [] = n := by unfold lnS; rw [if_neg (by decide)]
      rw [hl] at h2
      have h3 := FS.set W (l := []) (r := [Item.lex fc.G.w.params a n []]) (i := Item.ci I m (.ref a.aL) false) (j := Item.ci I m (.ref a.aL) true) h2 (s' := { s' with heap := h' }) rfl ⟨h', _, rfl⟩ (fun b ob hb e => keep b ob (fun q => hb (List.mem_singleton.mpr q)) e) ⟨⟨0, gI⟩, ?_, ?_⟩
      · exact done _ n h3 (fun _ _ => trivial) hJ
      · exact pm
      · obtain ⟨_, pm2, em2⟩ := h2.box (Item.ci I m (.ref a.aL) false) (.head _)
        exact keep _ _ (fun q => by rw [← q, em] at eI; have z := congrArg (fun o : Option Obj => o.map (·.cls)) eI; simp [methodObj] at z) em2
    | cons c cs' =>
      rw [hdS_cons, if_neg (by decide)]
      refine wpAny_of_eq (hgo _ _) ?_
      refine wpAny_assign_Name (h2.store W hx .str fun s4 h4 => ?_)
      refine wpAny_mono (hbody tok n c cs' hJ _ s4 h4) (fun f s5 q => ?_) fun _ _ e => e
      cases f with
      | next => obtain ⟨tok', n', cs2, en', hz, hJ', h5⟩ := q; exact ⟨_, hz, tok', n', cs2, en', rfl, hJ', h5⟩
      | cont => obtain ⟨tok', n', cs2, en', hz, hJ', h5⟩ := q; exact ⟨_, hz, tok', n', cs2, en', rfl, hJ', h5⟩
      | brk => exact q.elim
      | ret v => exact q
end
noncomputable def isQ (c : Nat) : Bool := st1 c == ("\"" : Str)
noncomputable def isB (c : Nat) : Bool := st1 c == ("\\" : Str)
noncomputable def wsB (c : Nat) : Bool := !(Builtin.Str.occurrences ws4 (st1 c) 0 ws4.length 1).isEmpty
noncomputable def tokS (tok : List Nat) : Str := ⟨tok.toArray⟩
theorem tokS_snoc (tok : List Nat) (c : Nat) : tokS tok ++ st1 c = tokS (tok ++ [c]) := by
  show Str.append _ _ = _
  simp [Str.append, tokS, st1]
theorem tokS_nil (tok : List Nat) : tokS tok ++ ("" : Str) = tokS tok := by
  show Str.append _ _ = _
  simp [Str.append, tokS]
  rfl
theorem tokS_hd (tok : List Nat) (cs : List Nat) : tokS tok ++ hdS cs = tokS (tok ++ cs.take 1) := by
  cases cs with
  | nil => show tokS tok ++ ("" : Str) = _; rw [tokS_nil]; simp
  | cons c cs => exact tokS_snoc tok c
noncomputable def quo : List Nat → Int → List Nat → List Nat × Int × List Nat
  | tok, n, [] => (tok, n, [])
  | tok, n, c :: cs => if isQ c then (tok, lnc n c, cs) else if isB c then (match cs with
      | [] => (tok, lnc n c, [])
      | d :: cs' => quo (tok ++ [d]) (lnc (lnc n c) d) cs') else quo (tok ++ [c]) (lnc n c) cs
noncomputable def unq : List Nat → Int → List Nat → List Nat × Int × List Nat
  | tok, n, [] => (tok, n, [])
  | tok, n, c :: cs => if wsB c then (tok, lnc n c, cs) else if isB c then (match cs with
      | [] => (tok, lnc n c, [])
      | d :: cs' => unq (tok ++ [d]) (lnc (lnc n c) d) cs') else unq (tok ++ [c]) (lnc n c) cs
noncomputable def tokn : Int → List Nat → List Nat × Int × List Nat
  | n, [] => ([], n, [])
  | n, c :: cs => if wsB c then tokn (lnc n c) cs else if isQ c then quo [] (lnc n c) cs else if isB c then (match cs with
      | [] => ([], lnc n c, [])
      | d :: cs' => unq [d] (lnc (lnc n c) d) cs') else unq [c] (lnc n c) cs
theorem lnS_nil (n : Int) : lnS n [] = n := by unfold lnS; rw [if_neg (by decide)]
theorem quo_esc {tok n c cs} (h1 : isQ c = false) (h2 : isB c = true) : quo tok n (c :: cs) = quo (tok ++ cs.take 1) (lnS (lnc n c) cs) cs.tail := by
  conv => lhs; unfold quo
  rw [h1, h2]
  cases cs with
  | nil => simp [quo, lnS_nil]
  | cons d r => rfl
theorem quo_pl {tok n c cs} (h1 : isQ c = false) (h2 : isB c = false) : quo tok n (c :: cs) = quo (tok ++ [c]) (lnc n c) cs := by
  conv => lhs; unfold quo
  rw [h1, h2]; rfl
theorem quo_end {tok n c cs} (h1 : isQ c = true) : quo tok n (c :: cs) = (tok, lnc n c, cs) := by
  conv => lhs; unfold quo
  rw [h1]; rfl
theorem unq_esc {tok n c cs} (h1 : wsB c = false) (h2 : isB c = true) : unq tok n (c :: cs) = unq (tok ++ cs.take 1) (lnS (lnc n c) cs) cs.tail := by
  conv => lhs; unfold unq
  rw [h1, h2]
  cases cs with
  | nil => simp [unq, lnS_nil]
  | cons d r => rfl
theorem unq_pl {tok n c cs} (h1 : wsB c = false) (h2 : isB c = false) : unq tok n (c :: cs) = unq (tok ++ [c]) (lnc n c) cs := by
  conv => lhs; unfold unq
  rw [h1, h2]; rfl
theorem unq_end {tok n c cs} (h1 : wsB c = true) : unq tok n (c :: cs) = (tok, lnc n c, cs) := by
  conv => lhs; unfold unq
  rw [h1]; rfl
theorem tokn_ws {n c cs} (h1 : wsB c = true) : tokn n (c :: cs) = tokn (lnc n c) cs := by
  conv => lhs; unfold tokn
  rw [h1]; rfl
theorem tokn_q {n c cs} (h1 : wsB c = false) (h2 : isQ c = true) : tokn n (c :: cs) = quo [] (lnc n c) cs := by
  conv => lhs; unfold tokn
  rw [h1, h2]; rfl
theorem tokn_esc {n c cs} (h1 : wsB c = false) (h2 : isQ c = false) (h3 : isB c = true) : tokn n (c :: cs) = unq (cs.take 1) (lnS (lnc n c) cs) cs.tail := by
  conv => lhs; unfold tokn
  rw [h1, h2, h3]
  cases cs with
  | nil => simp [unq, lnS_nil]
  | cons d r => rfl
theorem tokn_pl {n c cs} (h1 : wsB c = false) (h2 : isQ c = false) (h3 : isB c = false) : tokn n (c :: cs) = unq [c] (lnc n c) cs := by
  conv => lhs; unfold tokn
  rw [h1, h2, h3]; rfl
section
variable {fc : FC} {s0 : Shared} {σ : List (Str × AV)} {β : List Item} {Post : Flow → Shared → Prop} {rest : List Stmt}
theorem EvX.rc (g : GN fc.G) (W : fc.Ok) (rm : Rm fc.A 2) {l r : List Item} {a : LexA} (nd : a.ad.Nodup) {n : Int} {cs' : List Nat} (hz : cs'.length ≤ 1000000) {o : Expr} {p1 p2 : Pos} (ho : EvE (cs fc s0 σ (l ++ Item.lex fc.G.w.params a n cs' :: r)) o (.raw (.ref a.aL)))
    (hb1 : attributeBase o "_read_char" fc.env (eval o fc.env) = eval o fc.env := by rfl) (hline : (p1.endLine == p2.line) = true := by rfl) :
    EvX fc s0 σ (l ++ Item.lex fc.G.w.params a n cs' :: r) (.Call (.Attribute o "_read_char" p1) [] [] p2) (.str (hdS cs')) (l ++ Item.lex fc.G.w.params a (lnS n cs') cs'.tail :: r) := fun s Q E hs kk => by
  refine meth_evalG ?_ hb1 (by rfl) hline
  refine ho (cs_ok W) s hs _ _ fun v s1 x1 y1 => ?_
  (first | ((first | replace y1 := VR.intI y1 | replace y1 := VR.strI y1); obtain ⟨_, rfl⟩ := y1) | ((first | replace y1 := VR.rawI y1 | replace y1 := VRs.nilI y1 | replace y1 := VR.boolI y1 | replace y1 := VR.noneI y1); subst y1) | cases y1)
  have hs1 := FS.ext W hs x1
  intro pl
  obtain ⟨k1, k2, k3, k4, t, w, I⟩ := lex_inst (hs1.box (Item.lex fc.G.w.params a n cs') (List.mem_append_right _ (.head _)))
  refine method_fn (f := 106) (FS.kin g.toGK rfl W hs1) I (ga_lex _) (hk_lex _) (by rfl) (by rfl) (by rfl) ?_
  have ok := FS.lexOk W hs1 nd
  have lq := FS.lexQ W hs1
  have gl := (hs1.glob W).wk W.g (P' := NT) fun a p => p.1
  have f106 := gl.keep _ _ (g.get (by rfl : (fr.heap_1 fc.G.w.params).lookup 106 = some (objAt fc.G.w.params 106)))
  refine Calls.callWith_function (fd := fdAt fc.G.w.params 106) (evalArgs_plainL (by rfl) (wpAny_items_nil ⟨⟨f106, rfl⟩, ?_⟩))
  refine wpAny_call (fn_rc g ok rm gl lq.1 hz fun s' t' cx lq' => ?_)
  exact kk _ _ (FS.backL W hs1 cx lq') .str
end
theorem bind_gt (P : Params) (v : Value) : bindArgs (fdAt P 113) ⟨[v], []⟩ = pure ((["self"] : List Str).zip [v]) := by kernel_rfl
theorem hdS_len (cs : List Nat) : (hdS cs).length ≤ 1 := by
  cases cs with
  | nil => exact Nat.zero_le _
  | cons c r => exact Nat.le_refl _
theorem tokS_len (tok : List Nat) : (tokS tok).length = tok.length := by simp [tokS, Str.length]
theorem st1_len (c : Nat) : (st1 c).length = 1 := rfl
noncomputable def gtS (I : Addr) (a : LexA) (tok : List Nat) : List (Str × AV) := [(("token" : Str), .str (tokS tok)), (("fiter" : Str), .raw (.ref I)), (("self" : Str), .raw (.ref a.aL))]
noncomputable def JQ (T : List Nat × Int × List Nat) (tok : List Nat) (n : Int) (cs : List Nat) (en : Bool) : Prop := quo tok n cs = T ∧ tok.length + cs.length ≤ 400000 ∧ (en = true → cs = [])
noncomputable def JU (T : List Nat × Int × List Nat) (tok : List Nat) (n : Int) (cs : List Nat) (en : Bool) : Prop := unq tok n cs = T ∧ tok.length + cs.length ≤ 400000 ∧ (en = true → cs = [])
noncomputable def JO (T : List Nat × Int × List Nat) (tok : List Nat) (n : Int) (cs : List Nat) (en : Bool) : Prop := (if en then T = (tok, n, []) ∧ cs = [] else tok = [] ∧ tokn n cs = T) ∧ tok.length + cs.length ≤ 400000
set_option maxHeartbeats 4000000 in
theorem fn_gt {G : G0} (g : GN G) {a : LexA} (ok : LexOk G a) {A : Around} {s : Shared} {n : Int} {cs' : List Nat} {R : Result → Shared → Prop} (rm : Rm A 5) (gl : Glob G NT s) (hx : LexQ G a n cs' s) (hz : cs'.length ≤ 400000)
    (k : ∀ s' t, ChgX G a.ad s s' → LexQ G a (tokn n cs').2.1 (tokn n cs').2.2 s' → R (.ok (.ret (.str (tokS (tokn n cs').1) t))) s') : codeAny (model G.prog G.w) A (.call (.ref 113) ⟨[.ref a.aL], []⟩) R s := by
  refine clo_code g.toOk (sc := ?sc) (fd := fdAt G.w.params 113) (body := bodyAt G.w.params 113) (O := a.ad) (β0 := [Item.lex G.w.params a n cs']) (rs := [.raw (.ref a.aL)]) (k := 4) ["self"] ?hsc rm gl (.cons .raw .nil) (gl.keep _ _ (g.get (by rfl : (fr.heap_1 G.w.params).lookup 113 = some (objAt G.w.params 113)))) rfl (Heap.CodeRec.keeps (⟨112, _, _, _, rfl, g.get rfl, rfl, rfl⟩ : G.g.CodeRec (fdAt G.w.params 113).code (fdAt G.w.params 113).qualname) gl.keep) rfl rfl rfl ?hcell (by decide) rfl (bind_gt _ _) ?hk ok.nt ?hb ?hOb (List.pairwise_singleton _ _) (lex_to g.toOk hx) ?main
  case hsc => conv => lhs; whnf
  case hcell => exact noCell (by rfl)
  case hk =>
    intro x hx
    rw [List.mem_singleton.mp hx]; rfl
  case hb =>
    intro i hi
    rw [List.mem_singleton.mp hi]
    exact ⟨fun b hb => hb, hx⟩
  case hOb => exact fun b hb => ⟨_, .head _, hb⟩
  case main =>
  intro L env W
  conv => arg 3; whnf
  have rm4 : Rm (A.deeper env) 4 := deeper_rm rm
  have fin : ∀ {fc : FC} {σ : List (Str × AV)} {I m self en n' cs2} {s' : Shared} {v : Value} {tok : List Nat}, fc.G = G → fc.O = a.ad → fc.Ok → FS fc s σ [Item.ci I m self en, Item.lex G.w.params a n' cs2] s' → tokn n cs' = (tok, n', cs2) → VR s'.heap s'.toks (PF fc []) (.str (tokS tok)) v → R (.ok (.ret v)) s' := by
    intro fc σ I m self en n' cs2 s' v tok hG hO W' h e y
    subst hG
    have q := (FS.lexQ W' (l := [Item.ci I m self en]) (r := []) h).1
    have c := h.toX W'
    rw [hO] at c
    (first | ((first | replace y := VR.intI y | replace y := VR.strI y); obtain ⟨_, rfl⟩ := y) | ((first | replace y := VR.rawI y | replace y := VRs.nilI y | replace y := VR.boolI y | replace y := VR.noneI y); subst y) | cases y)
    have := k s' ‹_› c (by rw [e]; exact q)
    rw [e] at this
    exact this
  refine Tri.if W (x := decide (([] : List AV).length ≠ 0)) (EvT.plain (EvE.lexPb g W (a := a) (.head _) nS) (TrR.list (by simp))) (fun h => by simp at h) (fun _ => Tri.back ?_)
  refine Tri.asgA W (r := .str "") .str rfl (.inl rfl) ?_
  refine Tri.fiter g W (a := a) (.head _) (EvE.name (Has.builtin rfl (g.glob rfl) rfl)) nS (.inl rfl) fun I m => ?_
  refine Tri.forC g W (rm4.le (by decide)) ok.nd (I := I) (m := m) (a := a) (tok0 := []) (n0 := n) (cs0 := cs') (en0 := false) (gtS I a) (JO (tokn n cs')) nS ?_ (.inl rfl) ⟨⟨rfl, rfl⟩, by simpa using hz⟩ (fun tok n cs' h => h.1.2) (fun tok n cs' en h => by have := h.2; omega) (fun tok n1 c cs1 hJ => ?_) (fun tok n1 en hJ => ?_)
  · simp only [gtS, List.mem_cons, or_false, forall_eq_or_imp, forall_eq, List.not_mem_nil]
    exact ⟨rfl, rfl, rfl⟩
  · -- a sign of the outer walk
    obtain ⟨⟨htok, hT⟩, hlen⟩ := hJ
    subst htok
    simp only [List.length_nil, List.length_cons, Nat.zero_add] at hlen
    refine Tri.if W (x := wsB c) (EvT.cmp (nL W) (EvE.lexWs g W (a := a) (.tail _ (.head _)) nS) .inS) (fun hw => ?_) (fun hw => Tri.back ?_)
    · refine Tri.cont fun s1 h1 => ⟨[], lnc n1 c, cs1, false, by simp [mzC], ⟨⟨rfl, ?_⟩, by simp; omega⟩, FS.sub h1 ?_⟩
      · rw [← hT, tokn_ws hw]
      · simp only [gtS, List.mem_cons, or_false, forall_eq_or_imp, forall_eq, List.not_mem_nil]
        exact ⟨rfl, rfl, rfl⟩
    refine Tri.if W (x := isQ c) (EvT.cmp (nL W) .str .eqS) (fun hq => ?_) (fun hq => ?_)
    · -- quoted
      rw [tokn_q hw hq] at hT
      refine Tri.forC g W (rm4.le (by decide)) ok.nd (I := I) (m := m) (a := a) (tok0 := []) (n0 := lnc n1 c) (cs0 := cs1) (en0 := false) (gtS I a) (JQ (tokn n cs')) nS ?_ (.inl rfl) ⟨hT, by simp; omega, fun e => by cases e⟩ (fun tok n cs' h => h.2.2 rfl) (fun tok n cs' en h => by have := h.2.1; omega) (fun tok2 n2 c2 cs2 hJ => ?_) (fun tok2 n2 en hJ => ?_)
      · simp only [gtS, List.mem_cons, or_false, forall_eq_or_imp, forall_eq, List.not_mem_nil]
        exact ⟨rfl, rfl, rfl⟩
      · obtain ⟨hT2, hlen2, -⟩ := hJ
        simp only [List.length_cons] at hlen2
        refine Tri.if W (x := isQ c2) (EvT.cmp (nL W) .str .eqS) (fun hq2 => ?_) (fun hq2 => ?_)
        · rw [quo_end hq2] at hT2
          exact Tri.ret W (r := .str (tokS tok2)) (nL W) fun s' v h y => fin rfl rfl W h hT2.symm y
        · refine Tri.if W (x := isB c2) (EvT.cmp (nL W) .str .eqS) (fun hb2 => ?_) (fun hb2 => ?_)
          · rw [quo_esc hq2 hb2] at hT2
            refine Tri.asgX W (β' := [Item.ci I m (.ref a.aL) false, Item.lex G.w.params a (lnS (lnc n2 c2) cs2) cs2.tail]) (EvX.rc g W (rm4.le (by decide)) (l := [Item.ci I m (.ref a.aL) false]) (r := []) ok.nd (by omega) nS) (.inl rfl) (Tri.back (Tri.back ?_))
            refine Tri.aug W (r1 := .str (tokS tok2)) (r2 := .str (hdS cs2)) (r := .str (tokS (tok2 ++ cs2.take 1))) ((Has.loc rfl rfl).big W) (nL W) (tokS_hd tok2 cs2 ▸ OpR.iaddS ?_) rfl (.inl rfl) ?_
            · have : (hdS cs2).length ≤ 1 := by cases cs2 <;> simp [hdS, Str.length] <;> decide
              simp only [tokS, Str.length, List.size_toArray] at this ⊢
              omega
            refine Tri.nil fun s3 h3 => ⟨tok2 ++ cs2.take 1, _, cs2.tail, false, ?_, ⟨hT2, ?_, fun e => by cases e⟩, FS.sub h3 ?_⟩
            · simp only [mzC, List.length_cons, List.length_tail, Bool.false_eq_true, if_false]; omega
            · simp only [List.length_append, List.length_take, List.length_tail]; omega
            · simp only [gtS, List.mem_cons, or_false, forall_eq_or_imp, forall_eq, List.not_mem_nil]
              exact ⟨rfl, rfl, rfl⟩
          · rw [quo_pl hq2 hb2] at hT2
            refine Tri.back (Tri.back ?_)
            refine Tri.aug W (r1 := .str (tokS tok2)) (r2 := .str (st1 c2)) (r := .str (tokS (tok2 ++ [c2]))) ((Has.loc rfl rfl).big W) (nL W) (tokS_snoc tok2 c2 ▸ OpR.iaddS ?_) rfl (.inl rfl) ?_
            · simp only [tokS, st1, Str.length, List.size_toArray]
              show tok2.length + 1 ≤ 1000000
              omega
            refine Tri.nil fun s3 h3 => ⟨tok2 ++ [c2], _, cs2, false, ?_, ⟨hT2, ?_, fun e => by cases e⟩, FS.sub h3 ?_⟩
            · simp only [mzC, List.length_cons, Bool.false_eq_true, if_false]; omega
            · simp only [List.length_append, List.length_singleton]; omega
            · simp only [gtS, List.mem_cons, or_false, forall_eq_or_imp, forall_eq, List.not_mem_nil]
              exact ⟨rfl, rfl, rfl⟩
      · obtain ⟨hT2, hlen2, -⟩ := hJ
        refine Tri.back (Tri.nil fun s3 h3 => ⟨tok2, n2, [], true, by simp [mzC], ⟨⟨hT2.symm, rfl⟩, hlen2⟩, h3⟩)
    · -- bare
      refine Tri.if W (x := isB c) (EvT.cmp (nL W) .str .eqS) (fun hb => ?_) (fun hb => ?_)
      · rw [tokn_esc hw hq hb] at hT
        refine Tri.asgX W (β' := [Item.ci I m (.ref a.aL) false, Item.lex G.w.params a (lnS (lnc n1 c) cs1) cs1.tail]) (EvX.rc g W (rm4.le (by decide)) (l := [Item.ci I m (.ref a.aL) false]) (r := []) ok.nd (by omega) nS) (.inl rfl) (Tri.back ?_)
        refine Tri.aug W (r1 := .str (tokS [])) (r2 := .str (hdS cs1)) (r := .str (tokS (cs1.take 1))) ((Has.loc rfl rfl).big W) (nL W) (by have e := tokS_hd [] cs1; rw [List.nil_append] at e; rw [← e]; exact OpR.iaddS (Nat.le_trans (Nat.add_le_add (Nat.le_of_eq (tokS_len [])) (hdS_len cs1)) (by decide))) rfl (.inl rfl) ?_
        generalize lnS (lnc n1 c) cs1 = nb at *
        have hlb : (cs1.take 1).length + cs1.tail.length ≤ 400000 := by simp only [List.length_take, List.length_tail]; omega
        have hmb : mzC cs1.tail false < mzC (c :: cs1) false := by simp only [mzC, List.length_cons, List.length_tail, Bool.false_eq_true, if_false]; omega
        have hmt : 0 < mzC (c :: cs1) false := by simp [mzC]
        generalize cs1.take 1 = tb at *
        generalize cs1.tail = cb at *
        refine Tri.forC g W (rm4.le (by decide)) ok.nd (I := I) (m := m) (a := a) (tok0 := tb) (n0 := nb) (cs0 := cb) (en0 := false) (gtS I a) (JU (tokn n cs')) nS ?_ (.inl rfl) ⟨hT, hlb, fun e => by cases e⟩ (fun tok n cs' h => h.2.2 rfl) (fun tok n cs' en h => by have := h.2.1; omega) (fun tok2 n2 c2 cs2 hJ => ?_) (fun tok2 n2 en hJ => ?_)
        · simp only [gtS, List.mem_cons, or_false, forall_eq_or_imp, forall_eq, List.not_mem_nil]
          exact ⟨rfl, rfl, rfl⟩
        · obtain ⟨hT2, hlen2, -⟩ := hJ
          simp only [List.length_cons] at hlen2
          refine Tri.if W (x := wsB c2) (EvT.cmp (nL W) (EvE.lexWs g W (a := a) (.tail _ (.head _)) nS) .inS) (fun hq2 => ?_) (fun hq2 => ?_)
          · rw [unq_end hq2] at hT2
            exact Tri.ret W (r := .str (tokS tok2)) (nL W) fun s' v h y => fin rfl rfl W h hT2.symm y
          · refine Tri.if W (x := isB c2) (EvT.cmp (nL W) .str .eqS) (fun hb2 => ?_) (fun hb2 => ?_)
            · rw [unq_esc hq2 hb2] at hT2
              refine Tri.asgX W (β' := [Item.ci I m (.ref a.aL) false, Item.lex G.w.params a (lnS (lnc n2 c2) cs2) cs2.tail]) (EvX.rc g W (rm4.le (by decide)) (l := [Item.ci I m (.ref a.aL) false]) (r := []) ok.nd (by omega) nS) (.inl rfl) (Tri.back (Tri.back ?_))
              refine Tri.aug W (r1 := .str (tokS tok2)) (r2 := .str (hdS cs2)) (r := .str (tokS (tok2 ++ cs2.take 1))) ((Has.loc rfl rfl).big W) (nL W) (tokS_hd tok2 cs2 ▸ OpR.iaddS ?_) rfl (.inl rfl) ?_
              · have : (hdS cs2).length ≤ 1 := by cases cs2 <;> simp [hdS, Str.length] <;> decide
                simp only [tokS, Str.length, List.size_toArray] at this ⊢
                omega
              refine Tri.nil fun s3 h3 => ⟨tok2 ++ cs2.take 1, _, cs2.tail, false, ?_, ⟨hT2, ?_, fun e => by cases e⟩, FS.sub h3 ?_⟩
              · simp only [mzC, List.length_cons, List.length_tail, Bool.false_eq_true, if_false]; omega
              · simp only [List.length_append, List.length_take, List.length_tail]; omega
              · simp only [gtS, List.mem_cons, or_false, forall_eq_or_imp, forall_eq, List.not_mem_nil]
                exact ⟨rfl, rfl, rfl⟩
            · rw [unq_pl hq2 hb2] at hT2
              refine Tri.back (Tri.back ?_)
              refine Tri.aug W (r1 := .str (tokS tok2)) (r2 := .str (st1 c2)) (r := .str (tokS (tok2 ++ [c2]))) ((Has.loc rfl rfl).big W) (nL W) (tokS_snoc tok2 c2 ▸ OpR.iaddS ?_) rfl (.inl rfl) ?_
              · simp only [tokS, st1, Str.length, List.size_toArray]
                show tok2.length + 1 ≤ 1000000
                omega
              refine Tri.nil fun s3 h3 => ⟨tok2 ++ [c2], _, cs2, false, ?_, ⟨hT2, ?_, fun e => by cases e⟩, FS.sub h3 ?_⟩
              · simp only [mzC, List.length_cons, Bool.false_eq_true, if_false]; omega
              · simp only [List.length_append, List.length_singleton]; omega
              · simp only [gtS, List.mem_cons, or_false, forall_eq_or_imp, forall_eq, List.not_mem_nil]
                exact ⟨rfl, rfl, rfl⟩
        · obtain ⟨hT2, hlen2, -⟩ := hJ
          refine Tri.back (Tri.nil fun s3 h3 => ⟨tok2, n2, [], true, hmt, ⟨⟨hT2.symm, rfl⟩, hlen2⟩, h3⟩)
      · rw [tokn_pl hw hq hb] at hT
        refine Tri.back ?_
        refine Tri.aug W (r1 := .str (tokS [])) (r2 := .str (st1 c)) (r := .str (tokS [c])) ((Has.loc rfl rfl).big W) (nL W) (by have e := tokS_snoc [] c; rw [List.nil_append] at e; rw [← e]; exact OpR.iaddS (Nat.le_trans (Nat.add_le_add (Nat.le_of_eq (tokS_len [])) (Nat.le_of_eq (st1_len c))) (by decide))) rfl (.inl rfl) ?_
        generalize lnc n1 c = nb at *
        have hlb : ([c] : List Nat).length + cs1.length ≤ 400000 := by simp; omega
        have hmb : mzC cs1 false < mzC (c :: cs1) false := by simp only [mzC, List.length_cons, Bool.false_eq_true, if_false]; omega
        have hmt : 0 < mzC (c :: cs1) false := by simp [mzC]
        generalize hzz : mzC (c :: cs1) false = zz at *
        generalize ([c] : List Nat) = tb at *
        generalize cs1 = cb at *
        refine Tri.forC g W (rm4.le (by decide)) ok.nd (I := I) (m := m) (a := a) (tok0 := tb) (n0 := nb) (cs0 := cb) (en0 := false) (gtS I a) (JU (tokn n cs')) nS ?_ (.inl rfl) ⟨hT, hlb, fun e => by cases e⟩ (fun tok n cs' h => h.2.2 rfl) (fun tok n cs' en h => by have := h.2.1; omega) (fun tok2 n2 c2 cs2 hJ => ?_) (fun tok2 n2 en hJ => ?_)
        · simp only [gtS, List.mem_cons, or_false, forall_eq_or_imp, forall_eq, List.not_mem_nil]
          exact ⟨rfl, rfl, rfl⟩
        · obtain ⟨hT2, hlen2, -⟩ := hJ
          simp only [List.length_cons] at hlen2
          refine Tri.if W (x := wsB c2) (EvT.cmp (nL W) (EvE.lexWs g W (a := a) (.tail _ (.head _)) nS) .inS) (fun hq2 => ?_) (fun hq2 => ?_)
          · rw [unq_end hq2] at hT2
            exact Tri.ret W (r := .str (tokS tok2)) (nL W) fun s' v h y => fin rfl rfl W h hT2.symm y
          · refine Tri.if W (x := isB c2) (EvT.cmp (nL W) .str .eqS) (fun hb2 => ?_) (fun hb2 => ?_)
            · rw [unq_esc hq2 hb2] at hT2
              refine Tri.asgX W (β' := [Item.ci I m (.ref a.aL) false, Item.lex G.w.params a (lnS (lnc n2 c2) cs2) cs2.tail]) (EvX.rc g W (rm4.le (by decide)) (l := [Item.ci I m (.ref a.aL) false]) (r := []) ok.nd (by omega) nS) (.inl rfl) (Tri.back (Tri.back ?_))
              refine Tri.aug W (r1 := .str (tokS tok2)) (r2 := .str (hdS cs2)) (r := .str (tokS (tok2 ++ cs2.take 1))) ((Has.loc rfl rfl).big W) (nL W) (tokS_hd tok2 cs2 ▸ OpR.iaddS ?_) rfl (.inl rfl) ?_
              · have : (hdS cs2).length ≤ 1 := by cases cs2 <;> simp [hdS, Str.length] <;> decide
                simp only [tokS, Str.length, List.size_toArray] at this ⊢
                omega
              refine Tri.nil fun s3 h3 => ⟨tok2 ++ cs2.take 1, _, cs2.tail, false, ?_, ⟨hT2, ?_, fun e => by cases e⟩, FS.sub h3 ?_⟩
              · simp only [mzC, List.length_cons, List.length_tail, Bool.false_eq_true, if_false]; omega
              · simp only [List.length_append, List.length_take, List.length_tail]; omega
              · simp only [gtS, List.mem_cons, or_false, forall_eq_or_imp, forall_eq, List.not_mem_nil]
                exact ⟨rfl, rfl, rfl⟩
            · rw [unq_pl hq2 hb2] at hT2
              refine Tri.back (Tri.back ?_)
              refine Tri.aug W (r1 := .str (tokS tok2)) (r2 := .str (st1 c2)) (r := .str (tokS (tok2 ++ [c2]))) ((Has.loc rfl rfl).big W) (nL W) (tokS_snoc tok2 c2 ▸ OpR.iaddS ?_) rfl (.inl rfl) ?_
              · simp only [tokS, st1, Str.length, List.size_toArray]
                show tok2.length + 1 ≤ 1000000
                omega
              refine Tri.nil fun s3 h3 => ⟨tok2 ++ [c2], _, cs2, false, ?_, ⟨hT2, ?_, fun e => by cases e⟩, FS.sub h3 ?_⟩
              · simp only [mzC, List.length_cons, Bool.false_eq_true, if_false]; omega
              · simp only [List.length_append, List.length_singleton]; omega
              · simp only [gtS, List.mem_cons, or_false, forall_eq_or_imp, forall_eq, List.not_mem_nil]
                exact ⟨rfl, rfl, rfl⟩
        · obtain ⟨hT2, hlen2, -⟩ := hJ
          refine Tri.back (Tri.nil fun s3 h3 => ⟨tok2, n2, [], true, hmt, ⟨⟨hT2.symm, rfl⟩, hlen2⟩, h3⟩)
  · -- the end
    have hT : tokn n cs' = (tok, n1, []) := by
      obtain ⟨hJ, -⟩ := hJ
      cases en with
      | true => exact hJ.1
      | false =>
        obtain ⟨h1, h2⟩ := hJ
        subst h1
        exact h2.symm
    exact Tri.ret W (r := .str (tokS tok)) (nL W) fun s' v h y => fin rfl rfl W h hT y
theorem VRs.of_get {h : Heap} {τ : Nat} {P : Addr → Prop} : ∀ {xs : List AV} {vs : List Value}, xs.length = vs.length → (∀ (i : Nat) x v, xs[i]? = some x → vs[i]? = some v → VR h τ P x v) → VRs h τ P xs vs := fun {xs} => by
  induction xs with
  | nil =>
    intro vs e k
    rw [List.eq_nil_of_length_eq_zero e.symm]
    exact .nil
  | cons x xs ih =>
    intro vs e k
    obtain ⟨v, vs, rfl, e2⟩ := lenS e.symm
    exact .cons (k 0 x v rfl rfl) (ih e2.symm fun i x v a b => k (i + 1) x v a b)
theorem slice_go {prog : Program} {w : World} {A : Around} {E : Value → Shared → Prop} {s : Shared} {env : Env} {value st : Expr} {lower upper : Option Expr} {p pos : Pos} {T id : String} {Q : Value → Shared → Prop}
    (hl : typeLookup (.type T) "__getitem__" = pure (some (.builtin id)))
    (h : wpAny (model prog w) A (eval value env) (fun o s₁ => wpAny (model prog w) A (eval (.Slice lower upper (some st) p) env) (fun i s₂ => s₂.TypeIs o T ∧ wpAny (model prog w) A (getItem o i) Q E s₂) E s₁) E s) :
    wpAny (model prog w) A (eval (.Subscript value (.Slice lower upper (some st) p) pos) env) Q E s := by
  rw [eval_Subscript]
  refine wpAny_bind (wpAny_mono h (fun o s₁ h₁ => wpAny_bind (wpAny_holding (wpAny_mono h₁ (fun i s₂ h₂ => wpAny_bind (wpAny_standAt ?_)) fun _ _ x => x))) fun _ _ x => x)
  have fin : wpAny (model prog w) A (operate [o, i] (getItem o i)) (fun r s₃ => wpAny (model prog w) A (letTemporaryGo value o r >>= fun _ => pure r) Q E s₃) E s₂ :=
    wpAny_operating (wpAny_mono h₂.2 (fun r s₃ h₃ => wpAny_bind (wpAny_letTemporaryGo (wpAny_pure h₃))) fun _ _ x => x)
  first
    | (refine wpAny_bind ?_
       rw [getitemInPython_of_ne h₂.1.not_modules]
       refine wpAny_bind (wpAny_specialOf h₂.1 hl ?_)
       first
         | exact wpAny_pure (wpAny_bind fin)
         | exact wpAny_bind (wpAny_pure (wpAny_bind fin))
         | exact wpAny_bind fin)
    | (refine wpAny_bind (wpAny_specialOf h₂.1 hl ?_)
       first
         | exact wpAny_bind (wpAny_pure (wpAny_bind fin))
         | exact wpAny_bind fin)
theorem chA_eq (x : Str) : x.cps.toList.map chA = signsA x := rfl
section
variable {c : Cx}
theorem EvP.listStr {x : Str} {f : Str} {p pos : Pos} {e : Expr} (hf : EvE c (.Name f p) (.raw (.type "list"))) (ha : EvA c [e] [.str x]) (hn : x.cps.size ≤ 1000000) : EvP c (.Call (.Name f p) [e] [] pos) (x.cps.toList.map chA) := fun o s Q E hs kk => by
  rw [arm_eval_Call_Name']
  refine wpAny_bind (hf o s hs _ _ fun v s1 x1 y1 => ?_)
  (first | ((first | replace y1 := VR.intI y1 | replace y1 := VR.strI y1); obtain ⟨_, rfl⟩ := y1) | ((first | replace y1 := VR.rawI y1 | replace y1 := VRs.nilI y1 | replace y1 := VR.boolI y1 | replace y1 := VR.noneI y1); subst y1) | cases y1)
  have hs1 := o.stab _ _ hs x1
  refine callW o hs1 .type ha fun vs s2 x2 y2 => ?_
  replace y2 := VRs.consI y2
  obtain ⟨_, _, rfl, z, y2⟩ := y2
  (first | ((first | replace y2 := VR.intI y2 | replace y2 := VR.strI y2); obtain ⟨_, rfl⟩ := y2) | ((first | replace y2 := VR.rawI y2 | replace y2 := VRs.nilI y2 | replace y2 := VR.boolI y2 | replace y2 := VR.noneI y2); subst y2) | cases y2)
  (first | ((first | replace z := VR.intI z | replace z := VR.strI z); obtain ⟨_, rfl⟩ := z) | ((first | replace z := VR.rawI z | replace z := VRs.nilI z | replace z := VR.boolI z | replace z := VR.noneI z); subst z) | cases z)
  refine wpAny_mono (wpAny_with_toks (Nat.le_refl s2.toks) (call_list_str (Q := fun v s' => s2.toks ≤ s'.toks → Q v s') o.hd x _ (fun h' tk acc' c' hk hS hi hle => ?_) (Nat.le_trans hn (by decide)))) (fun _ _ h => h) fun _ _ h => h
  have x3 : Ext c.G s2 { s2 with heap := h', toks := tk } := Ext.of (tk := tk) (le := hle) o.g hk
  refine kk _ acc'.toList c' _ ((x1.trans x2).none (size_none _)) ((x1.trans x2).trans x3) (by simpa using hS) (VRs.of_get ?_ fun i a v ea ev => ?_)
  · rw [List.length_map, Array.length_toList, Array.length_toList]; exact hi.1.symm
  · obtain ⟨n, en, rfl⟩ : ∃ n, x.cps.toList[i]? = some n ∧ chA n = a := by
      rw [List.getElem?_map] at ea
      obtain ⟨n, h1, h2⟩ := Option.map_eq_some_iff.mp ea
      exact ⟨n, h1, h2⟩
    have hz := hi.2 i v (by simpa using ev)
    obtain ⟨n', u, e1, rfl⟩ := hz
    rw [Array.getElem?_toList, e1] at en
    cases en
    exact .str
theorem EvP.rev {value : Expr} {xs : List AV} {k : Nat} {p0 p1 p pos : Pos} (h : EvP c value xs) (hn : xs.length ≤ 1000000) (ha : xs.all AV.atom = true) :
    EvP c (.Subscript value (.Slice none none (some (.UnaryOp .USub (.Constant (.int 1) k p0) p1)) p) pos) xs.reverse := fun o s Q E hs kk => by
  refine slice_go (T := "list") list_getitem_lookup ?_
  refine h o s _ _ hs fun a vs n s1 ha1 x1 hl hv => ?_
  have hs1 := o.stab _ _ hs x1
  refine wpAny_Slice (wpAny_evalPart_none (wpAny_evalPart_none (wpAny_evalPart_some (UnaryOp_ (wpAny_Constant_int (neg_int ?_))))))
  have hl' : (s1.heap.push { cls := .type "slice", data := .fields #[.none, .none, .int (-1) (s1.toks + 1)] }).IsList a vs.toArray := hl.isList.push _
  refine ⟨hl'.typeIs (s := { s1 with heap := s1.heap.push { cls := .type "slice", data := .fields #[.none, .none, .int (-1) (s1.toks + 1)] }, toks := s1.toks + 1 + 1 }), ?_⟩
  refine wpAny_getItem_list_slice (s := { s1 with heap := s1.heap.push { cls := .type "slice", data := .fields #[.none, .none, .int (-1) (s1.toks + 1)] }, toks := s1.toks + 1 + 1 }) hl' (Heap.IsSliceOf.new ..) .none .none (.int (-1) _) (by decide) ?_ (by rw [List.size_toArray, ← hv.length]; exact Nat.le_trans hn (by decide))
  rw [krv_pick]
  have x2 : Ext c.G s1 { s1 with heap := (s1.heap.push { cls := .type "slice", data := .fields #[.none, .none, .int (-1) (s1.toks + 1)] }).push { cls := .type "list", data := .seq vs.toArray.toList.reverse.toArray }, toks := s1.toks + 1 + 1 } := Ext.of (tk := s1.toks + 1 + 1) o.g fun _ _ e => Heap.get?_push_of_some _ (Heap.get?_push_of_some _ e)
  have newA : s1.heap.get? (s1.heap.push { cls := .type "slice", data := .fields #[.none, .none, .int (-1) (s1.toks + 1)] }).objs.size = none := ge_none (by rw [Heap.size_push]; exact Nat.le_succ _)
  exact kk _ vs.reverse _ _ (x1.none newA) (x1.trans x2) (Heap.get?_push_size _ rfl) ((VRs.rev hv).atoms (by simpa [List.all_eq_true] using ha) x2.le)
end
noncomputable def Item.inst (x dx : Addr) (od : Obj) : Item where
  ad := [x, dx]
  pr := fun P h τ => h.get? x = some (instObj 123 dx) ∧ h.get? dx = some od
  fr := fun P P' h h' τ τ' ⟨a, b⟩ hk hp ht => ⟨hk _ _ (.inr (by simp)) a, hk _ _ (.inr (by simp)) b⟩
  lv := fun P h τ ⟨a, b⟩ y hy => by
    simp only [List.mem_cons, List.not_mem_nil, or_false] at hy
    rcases hy with rfl | rfl
    · exact ⟨_, a⟩
    · exact ⟨_, b⟩
section
variable {fc : FC} {s0 : Shared} {σ : List (Str × AV)} {β : List Item} {Post : Flow → Shared → Prop} {rest : List Stmt}
theorem FS.setA (g : GN fc.G) (W : fc.Ok) {l r : List Item} {x dx : Addr} {od : Obj} {name : Str} {v : Value} {s : Shared} {Q : Unit → Shared → Prop} {E : Value → Shared → Prop} (hs : FS fc s0 σ (l ++ Item.inst x dx od :: r) s) (hne : x ≠ dx) (ht : takerIn (fr.heap_1 fc.G.w.params) 123 name = some none) (hl : (lookIn name od).isSome = true)
    (he : ∀ key v, ∃ es : List DictEntry, ∃ n, (Obj.putName name (PyData.keyHash fc.G.w.params name) key v od).data = .dict es.toArray n ∧ es.length ≤ 1000)
    (k : ∀ tk s', FS fc s0 σ (l ++ Item.inst x dx (Obj.putName name (PyData.keyHash fc.G.w.params name) (.str name tk) v od) :: r) s' → Q () s') : wpAny (model fc.G.prog fc.G.w) fc.A (setAttr (.ref x) name v) Q E s := by
  obtain ⟨b1, b2⟩ := hs.box (Item.inst x dx od) (List.mem_append_right _ (.head _))
  have I : InstAt s.heap x (instObj 123 dx) 123 (some od) := ⟨b1, rfl, rfl, b2⟩
  obtain ⟨es, n, e1, e2⟩ := he (.str name (s.toks + 1)) v
  refine inst_set (w := fc.G.w) (FS.kin g.toGK rfl W hs) I rfl (sa_lex _) (by rfl) ht (by rfl) hl rfl e1 e2 fun h' g' sb => ?_
  refine k (s.toks + 1) _ (FS.set W (i := Item.inst x dx od) (j := Item.inst x dx _) hs rfl ⟨h', _, rfl⟩ (fun b ob hb e => sb.extBut b ob (fun q => hb (q ▸ by simp [Item.inst])) e) ⟨sb.extBut x _ hne b1, g'⟩ (Nat.le_trans (Nat.le_succ _) (Nat.le_succ _)))
theorem Tri.setA (g : GN fc.G) (W : fc.Ok) {l r : List Item} {x dx : Addr} {od : Obj} {o e : Expr} {name : Str} {tp pos : Pos} {rv : AV} (h : EvE (cs fc s0 σ (l ++ Item.inst x dx od :: r)) e rv) (ho : EvE (cs fc s0 σ (l ++ Item.inst x dx od :: r)) o (.raw (.ref x))) (hne : x ≠ dx) (ht : takerIn (fr.heap_1 fc.G.w.params) 123 name = some none) (hl : (lookIn name od).isSome = true)
    (he : ∀ key v, ∃ es : List DictEntry, ∃ n, (Obj.putName name (PyData.keyHash fc.G.w.params name) key v od).data = .dict es.toArray n ∧ es.length ≤ 1000)
    (k : ∀ tk v, (∃ hp τ P, VR hp τ P rv v) → Tri fc (FS fc s0 σ (l ++ Item.inst x dx (Obj.putName name (PyData.keyHash fc.G.w.params name) (.str name tk) v od) :: r)) rest Post)
    (hsw : swapsWith e (some (.Attribute o name tp)) pos.line fc.env = pure false := by rfl) : Tri fc (FS fc s0 σ (l ++ Item.inst x dx od :: r)) (.Assign [.Attribute o name tp] e pos :: rest) Post := Tri.st fun E s hs => by
  refine plainObj_wpAny_Assign_Attribute ?_ hsw
  refine h (cs_ok W) s hs _ _ fun v s1 x1 y1 => ?_
  have hs1 := FS.ext W hs x1
  refine ho (cs_ok W) s1 hs1 _ _ fun v2 s2 x2 y2 => ?_
  (first | ((first | replace y2 := VR.intI y2 | replace y2 := VR.strI y2); obtain ⟨_, rfl⟩ := y2) | ((first | replace y2 := VR.rawI y2 | replace y2 := VRs.nilI y2 | replace y2 := VR.boolI y2 | replace y2 := VR.noneI y2); subst y2) | cases y2)
  exact FS.setA g W (FS.ext W hs1 x2) hne ht hl he fun tk s3 hs3 E' => k tk v ⟨_, _, _, y1⟩ E' s3 hs3
theorem Tri.setAP (g : GN fc.G) (W : fc.Ok) {r : List Item} {x dx : Addr} {od : Obj} {o e : Expr} {name : Str} {tp pos : Pos} {xs : List AV} (h : EvP (cs fc s0 σ (Item.inst x dx od :: r)) e xs) (ho : ∀ β, EvE (cs fc s0 σ β) o (.raw (.ref x))) (hne : x ≠ dx) (ht : takerIn (fr.heap_1 fc.G.w.params) 123 name = some none) (hl : (lookIn name od).isSome = true)
    (he : ∀ key v, ∃ es : List DictEntry, ∃ n, (Obj.putName name (PyData.keyHash fc.G.w.params name) key v od).data = .dict es.toArray n ∧ es.length ≤ 1000)
    (k : ∀ tk b, Tri fc (FS fc s0 σ ([Item.plist b xs] ++ Item.inst x dx (Obj.putName name (PyData.keyHash fc.G.w.params name) (.str name tk) (.ref b) od) :: r)) rest Post)
    (hsw : swapsWith e (some (.Attribute o name tp)) pos.line fc.env = pure false := by rfl) : Tri fc (FS fc s0 σ (Item.inst x dx od :: r)) (.Assign [.Attribute o name tp] e pos :: rest) Post := Tri.st fun E s hs => by
  refine plainObj_wpAny_Assign_Attribute ?_ hsw
  refine h (cs_ok W) s _ _ hs fun b vs n s1 hb x1 hl1 hv => ?_
  have hs1 : FS fc s0 σ ([Item.plist b xs] ++ Item.inst x dx od :: r) s1 := hs.addP W hb x1 hl1 hv
  refine ho _ (cs_ok W) s1 hs1 _ _ fun v2 s2 x2 y2 => ?_
  (first | ((first | replace y2 := VR.intI y2 | replace y2 := VR.strI y2); obtain ⟨_, rfl⟩ := y2) | ((first | replace y2 := VR.rawI y2 | replace y2 := VRs.nilI y2 | replace y2 := VR.boolI y2 | replace y2 := VR.noneI y2); subst y2) | cases y2)
  exact FS.setA g W (FS.ext W hs1 x2) hne ht hl he fun tk s3 hs3 E' => k tk b E' s3 hs3
end
theorem bind_ini (P : Params) (v u : Value) : bindArgs (fdAt P 99) ⟨[v, u], []⟩ = pure ((["self", "fp"] : List Str).zip [v, u]) := by kernel_rfl
theorem fn_init {G : G0} (g : GN G) {A : Around} {s : Shared} {x dx f : Addr} {R : Result → Shared → Prop} (rm : Rm A 2) (gl : Glob G NT s) (hne : x ≠ dx) (hi : s.heap.get? x = some (instObj 123 dx)) (hdx : s.heap.get? dx = some emptyDict) (nt : ∀ b ∈ [x, dx], b ∉ Tb ∧ G.g.get? b = none)
    (k : ∀ s' k1 k2 k3 k4 t w aP m, ChgX G [x, dx] s s' → s'.heap.get? x = some (instObj 123 dx) → s'.heap.get? dx = some (lexD G.w.params k1 k2 k3 k4 1 t f w aP) → s.heap.get? aP = none → IsL s'.heap aP #[] m → R (.ok (.ret .none)) s') : codeAny (model G.prog G.w) A (.call (.ref 99) ⟨[.ref x, .ref f], []⟩) R s := by
  refine clo_code g.toOk (sc := ?sc) (fd := fdAt G.w.params 99) (body := bodyAt G.w.params 99) (O := [x, dx]) (β0 := [Item.inst x dx emptyDict]) (rs := [.raw (.ref x), .raw (.ref f)]) (k := 1) ["self", "fp"] ?hsc rm gl (.cons .raw (.cons .raw .nil)) (gl.keep _ _ (g.get (by rfl : (fr.heap_1 G.w.params).lookup 99 = some (objAt G.w.params 99)))) rfl (Heap.CodeRec.keeps (⟨98, _, _, _, rfl, g.get rfl, rfl, rfl⟩ : G.g.CodeRec (fdAt G.w.params 99).code (fdAt G.w.params 99).qualname) gl.keep) rfl rfl rfl ?hcell (by decide) rfl (bind_ini _ _ _) ?hk nt ?hb ?hOb (List.pairwise_singleton _ _) ?hTO ?main
  case hsc => conv => lhs; whnf
  case hcell => exact noCell (by rfl)
  case hk =>
    simp only [List.mem_cons, or_false, forall_eq_or_imp, forall_eq, List.not_mem_nil]
    exact ⟨rfl, rfl⟩
  case hb =>
    intro i hi'
    rw [List.mem_singleton.mp hi']
    exact ⟨fun b hb => hb, hi, hdx⟩
  case hOb => exact fun b hb => ⟨_, .head _, hb⟩
  case hTO =>
    intro P t
    have t1 := g.toOk.tsep _ _ _ _ t hi (fun vs q => by cases q)
    have t2 := g.toOk.tsep _ _ _ _ t1 hdx (fun vs q => by cases q)
    refine g.toOk.tmono _ _ _ t2 fun b _ p _ => ⟨p.1.1, fun q => ?_⟩
    simp only [List.mem_cons, List.not_mem_nil, or_false] at q
    rcases q with q | q
    · exact p.1.2 q
    · exact p.2 q
  case main =>
  intro L env W
  conv => arg 3; whnf
  refine Tri.setA g W (l := []) (r := []) (rv := .int 1) .int nS hne (by rfl) (by rfl) (fun key v => ⟨_, _, rfl, (show (1 : Nat) ≤ 1000 by decide)⟩) fun k1 v1 h1 => ?_
  refine Tri.setA g W (l := []) (r := []) (rv := .raw (.ref f)) nS nS hne (by rfl) (by rfl) (fun key v => ⟨_, _, rfl, (show (2 : Nat) ≤ 1000 by decide)⟩) fun k2 v2 h2 => ?_
  refine Tri.setA g W (l := []) (r := []) (rv := .str ws4) .str nS hne (by rfl) (by rfl) (fun key v => ⟨_, _, rfl, (show (3 : Nat) ≤ 1000 by decide)⟩) fun k3 v3 h3 => ?_
  refine Tri.setAP g W (r := []) (xs := []) (EvP.list .nil (by simp)) (fun β => nS) hne (by rfl) (by rfl) (fun key v => ⟨_, _, rfl, (show (4 : Nat) ≤ 1000 by decide)⟩) fun k4 aP => ?_
  obtain ⟨_, _, _, h1⟩ := h1
  obtain ⟨_, _, _, h2⟩ := h2
  obtain ⟨_, _, _, h3⟩ := h3
  cases h1
  cases h2
  cases h3
  refine Tri.nil fun s' h => ?_
  obtain ⟨b1, b2⟩ := h.box (Item.inst x dx _) (.tail _ (.head _))
  obtain ⟨vs, m, hl, hv⟩ := h.box (Item.plist aP []) (.head _)
  (first | ((first | replace hv := VR.intI hv | replace hv := VR.strI hv); obtain ⟨_, rfl⟩ := hv) | ((first | replace hv := VR.rawI hv | replace hv := VRs.nilI hv | replace hv := VR.boolI hv | replace hv := VR.noneI hv); subst hv) | cases hv)
  refine k s' k1 k2 k3 k4 _ _ aP m (h.toX W) b1 b2 ?_ hl
  rcases h.new aP (mem_MUs.mpr (.inr ⟨_, .head _, .head _⟩)) with p | p
  · have z : List.Pairwise (fun i j : Item => ∀ b ∈ i.ad, b ∉ j.ad) (Item.plist aP [] :: Item.inst x dx _ :: []) := h.sep
    exact absurd p ((List.pairwise_cons.mp z).1 _ (.head _) aP (.head _))
  · exact p
theorem hd_lam {G : G0} (g : GN G) : CodeHd G.g 133 129 := ⟨_, _, _, _, _, _, _, _, _, g.get rfl, rfl, rfl, rfl, rfl, rfl, rfl, rfl, rfl, by decide⟩
theorem codeAmong_app {pos : Pos} {c : Value} {p2 : Pos} : ∀ {l : List Value} {v : Value}, TriplesOk l → codeAmong p2 (l ++ [rawInt pos.line, rawInt pos.col, c]) = some v → codeAmong p2 l = some v ∨ v = c := fun {l v} h e => by
  fun_induction TriplesOk l with
  | case1 =>
    simp only [List.nil_append, rawInt, codeAmong] at e
    split at e
    · exact .inr (Option.some.inj e).symm
    · cases e
  | case2 _ _ _ _ _ _ ih =>
    simp only [List.cons_append, codeAmong] at e ⊢
    split at e
    · rename_i hc; rw [if_pos hc]; exact .inl e
    · rename_i hc; rw [if_neg hc]; exact ih h e
  | case3 => exact h.elim
theorem triples_app {a b : Int} {t u : Tok} {c : Value} : ∀ {l : List Value}, TriplesOk l → TriplesOk (l ++ [.int a t, .int b u, c])
  | [], _ => trivial
  | .int _ _ :: .int _ _ :: _ :: r, h => triples_app (l := r) h
section
variable {fc : FC} {s0 s : Shared} {σ : List (Str × AV)} {β : List Item}
theorem tab129 (g : GN fc.G) {Q : Addr → Prop} {h : Heap} (t : fc.G.TO Q h) : TabL Q h 129 (lamQual fc.G.w.params) := by
  rw [g.TO] at t
  exact t.2.2
theorem lam_make (g : GN fc.G) (W : fc.Ok) (hs : FS fc s0 σ β s) {args : Arguments} {body : Expr} {scope : Scope} {pos : Pos} {clos : List (Str × Addr)} (hdef : defaultsOf args fc.env = ([], [])) (hcode : fc.env.code = .ref 133) (hq : fc.env.qual ++ "<lambda>" = lamQual fc.G.w.params) (hcl : closureFor scope fc.env = pure clos) {Q : Value → Shared → Prop} {E : Value → Shared → Prop}
    (k : ∀ s' f cd pm ctv, Ext fc.G s s' → FS fc s0 σ β s' → s.heap.get? f = none → s'.heap.get? f = some { cls := .type "function", data := .func (kla_fn "<lambda>" (lamQual fc.G.w.params) args body scope clos pm (.ref cd) ctv) } → (∃ o vs t, s'.heap.get? cd = some o ∧ o.data = .fields vs ∧ vs[1]? = some (.str (lamQual fc.G.w.params) t)) →
      (∀ P : Addr → Prop, (∀ a, s0.heap.get? a = none → P a) → fc.G.TO P s0.heap → P cd ∧ cd ∉ MUs fc β) → Q (.ref f) s') : wpAny (model fc.G.prog fc.G.w) fc.A (eval (.Lambda args body scope pos) fc.env) Q E s := by
  have gl := hs.glob W
  have T := gl.top W.g
  have hCs : CodeHd s.heap 133 129 := (hd_lam g).keeps gl.keep
  obtain ⟨bm, ob, b1, b2, b3, b4, b5, b6⟩ := T.bmain
  obtain ⟨ps, tO, tk, tq⟩ := tab129 g gl.tabs
  have hgP : mainGlobals ≠ 129 := by decide
  have hbP : bm ≠ 129 := fun q => by
    rw [q, tO] at b3; cases b3; cases b4
  have hbG : bm ≠ mainGlobals := fun q => by
    obtain ⟨o, es, ep, e, hd, _⟩ := T.g
    rw [q, e] at b3; cases b3
    rw [hd] at b6; cases b6
  have BA : s.heap.BuiltinsAt fc.G.mg 129 := ⟨bm, ob, b1, b2, hbG, hbP, b3, b4, b5, b6⟩
  have inP : ∀ (P : Addr → Prop), (∀ a, s0.heap.get? a = none → P a) → fc.G.TO P s0.heap → ∀ pos c', codeAmong pos ps.toList = some (.ref c') → P c' ∧ c' ∉ MUs fc β := fun P f t pos c' e => by
    obtain ⟨ps', tO', _, tq'⟩ := tab129 g (hs.tabs P f t)
    rw [tO] at tO'
    have e2 : ps = ps' := by injection tO' with z; injection z with _ _ z; injection z
    subst e2
    obtain ⟨c2, e3, p, _⟩ := tq' pos _ e
    cases e3
    exact p
  rw [arm_eval_Lambda, hdef, hq]
  refine wpAny_bind (wpAny_pure (wpAny_bind (wpAny_holding (wpAny_pure ?_))))
  cases hc : codeAmong pos ps.toList with
  | none =>
    refine wpAny_with_toks (Nat.le_refl s.toks) (kla_makeFunction (mg := fc.G.mg) hcl W.eg T.g hcode hCs tO tk hc hgP BA fun c' ctv h' tk' hx' hge hlt hrec htb => fun hle => ?_)
    have up : ∀ b o, b ≠ 129 → s.heap.get? b = some o → h'.get? b = some o := hx'
    have nf : s.heap.get? h'.objs.size = none := by
      cases q : s.heap.get? h'.objs.size with
      | none => rfl
      | some o =>
        by_cases ht : h'.objs.size = 129
        · have : h'.get? 129 = none := ge_none (by rw [ht]; exact Nat.le_refl _)
          rw [this] at htb; cases htb
        · have := hx' _ o ht q
          exact absurd (Heap.lt_size this) (Nat.lt_irrefl _)
    have x : Ext fc.G s { s with heap := h'.push (kla_obj "<lambda>" (lamQual fc.G.w.params) args body scope clos ((fc.G.mg "__name__").getD .none) c' ctv), toks := tk' } := by
      refine ⟨⟨⟨_, tk', rfl⟩, fun b o hb eb => Heap.get?_push_of_some _ (up b o (fun q => hb (q ▸ by decide)) eb), fun b o eb => ?_, hle⟩, fun P fr t => ?_⟩
      · by_cases ht : b = 129
        · exact ⟨_, ht ▸ Heap.get?_push_of_some _ htb⟩
        · exact ⟨o, Heap.get?_push_of_some _ (hx' b o ht eb)⟩
      · rw [g.TO] at t ⊢
        have k1 : ∀ b o, b ≠ 129 → s.heap.get? b = some o → (h'.push (kla_obj "<lambda>" (lamQual fc.G.w.params) args body scope clos ((fc.G.mg "__name__").getD .none) c' ctv)).get? b = some o := fun b o hb eb => Heap.get?_push_of_some _ (hx' b o hb eb)
        refine ⟨t.1.upo tO tk (by decide) k1, t.2.1.upo tO tk (by decide) k1, _, Heap.get?_push_of_some _ htb, ?_, fun p2 v ev => ?_⟩
        · rw [Array.toList_append]
          exact triples_app tk
        · rw [Array.toList_append] at ev
          rcases codeAmong_app tk ev with e3 | e3
          · obtain ⟨ps', tO', _, tq'⟩ := t.2.2
            rw [tO] at tO'
            have e2 : ps = ps' := by injection tO' with z; injection z with _ _ z; injection z
            subst e2
            obtain ⟨c2, rfl, q, r⟩ := tq' p2 v e3
            have hne := tabo_ne tO tk r
            obtain ⟨c3, o, vs, u, f1, f2, f3, f4⟩ := r
            cases f1
            exact ⟨c2, rfl, q, c2, o, vs, u, rfl, k1 _ _ hne f2, f3, f4⟩
          · exact ⟨c', e3, fr c' (ge_none hge), hrec.push _⟩
    obtain ⟨c2, o2, vs2, t2, f1, f2, f3, f4⟩ := hrec
    cases f1
    have nc : s.heap.get? c' = none := ge_none hge
    refine k _ _ c' _ ctv x (hs.ext W x) nf (Heap.get?_push_size _ rfl) ⟨o2, vs2, t2, Heap.get?_push_of_some _ f2, f3, f4⟩ fun P f t => ⟨f c' (hs.kp.none nc), fun q => ?_⟩
    obtain ⟨ob', eo⟩ := hs.live c' q
    rw [nc] at eo; cases eo
  | some v =>
    obtain ⟨c', rfl, -, r⟩ := tq pos v hc
    refine wpAny_with_toks (Nat.le_refl s.toks) (kla_makeFunctionHit (mg := fc.G.mg) hcl W.eg T.g hcode hCs tO tk hc BA fun ctv h' tk' hk hsz => fun hle => ?_)
    have nf : s.heap.get? h'.objs.size = none := ge_none hsz
    have x : Ext fc.G s { s with heap := h'.push { cls := .type "function", data := .func (kla_fn "<lambda>" (lamQual fc.G.w.params) args body scope clos ((fc.G.mg "__name__").getD .none) (.ref c') ctv) }, toks := tk' } := Ext.of (tk := tk') (le := hle) W.g fun b o eb => Heap.get?_push_of_some _ (hk b o eb)
    obtain ⟨c2, o2, vs2, t2, f1, f2, f3, f4⟩ := r
    cases f1
    exact k _ _ c' _ ctv x (hs.ext W x) nf (Heap.get?_push_size _ rfl) ⟨o2, vs2, t2, Heap.get?_push_of_some _ (hk _ _ f2), f3, f4⟩ fun P f t => inP P f t pos c' hc
end
noncomputable def Item.one (x : Addr) (ob : Obj) : Item where
  ad := [x]
  pr := fun P h τ => h.get? x = some ob
  fr := fun P P' h h' τ τ' a hk hp ht => hk _ _ (.inr (by simp)) a
  lv := fun P h τ a y hy => by
    rw [List.mem_singleton.mp hy]
    exact ⟨_, a⟩
theorem under_rm {A : Around} {k : Nat} (h : Rm A (k + 2)) (v : Value) : Rm (A.under (.builtin "type.__call__" ⟨.ref 123 :: [v], []⟩)) k := by
  refine ⟨h.1, ?_, ?_⟩
  · have := h.2.1
    show A.depth + 1 + 30 + k < _
    omega
  · have := h.2.2
    show A.units + 1 + 400 + 3 * k < _
    omega
theorem FS.setOne {fc : FC} {s0 s : Shared} {σ : List (Str × AV)} {r : List Item} (W : fc.Ok) {x : Addr} {ob ob' : Obj} {h' : Heap} {tk : Nat} (hp : h'.get? x = some ob') (h : FS fc s0 σ (Item.one x ob :: r) s) (keep : ∀ b o, b ≠ x → s.heap.get? b = some o → h'.get? b = some o) (hle : s.toks ≤ tk) : FS fc s0 σ (Item.one x ob' :: r) { s with heap := h', toks := tk } :=
  FS.set W (l := []) (i := Item.one x ob) (j := Item.one x ob') h rfl ⟨h', tk, rfl⟩ (fun b o hb e => keep b o (fun q => hb (List.mem_singleton.mpr q)) e) hp hle
theorem EvP.run {fc : FC} {s0 s : Shared} {σ : List (Str × AV)} {β : List Item} (W : fc.Ok) (hs : FS fc s0 σ β s) {e : Expr} {xs : List AV} {Q E : Value → Shared → Prop} (h : EvP (cs fc s0 σ β) e xs) (k : ∀ a s', s.heap.get? a = none → Ext fc.G s s' → FS fc s0 σ (Item.plist a xs :: β) s' → Q (.ref a) s') : wpAny (model fc.G.prog fc.G.w) fc.A (eval e fc.env) Q E s :=
  h (cs_ok W) s _ _ hs fun a vs n s' ha x hl hv => k a s' ha x (hs.addP W ha x hl hv)
theorem bind_lx (P : Params) : ∀ vs : List Value, vs.length = 1 → bindArgs (fdAt P 134) ⟨vs, []⟩ = pure ((["text"] : List Str).zip vs) := by
  intro vs h
  obtain ⟨a, rfl⟩ := len1 h
  kernel_rfl
noncomputable def textCs (x : Str) : List Nat := x.cps.toList
structure NewLex (G : G0) (a : LexA) (cs : List Nat) (s s' : Shared) : Prop where
  ext : Ext G s s'
  new : ∀ b ∈ a.ad, s.heap.get? b = none
  nd : a.ad.Nodup
  lex : LexP G.w.params a 1 cs (fun _ => True) s'.heap s'.toks
  cd : ∀ P : Addr → Prop, (∀ b, s.heap.get? b = none → P b) → G.TO P s.heap → P a.cd
theorem fn_lexer {G : G0} (g : GN G) {A : Around} {s : Shared} {text : Str} {t : Tok} {Q E : Value → Shared → Prop} (rm : Rm A 5) (gl : Glob G NT s) (hz : text.cps.size ≤ 400000)
    (k : ∀ a s', NewLex G a (textCs text) s s' → Q (.ref a.aL) s') : wpAny (model G.prog G.w) A (call (.ref 134) [.str text t] []) Q E s := by
  refine call_frame g.toOk (k := 4) (sc := ?sc) (fd := fdAt G.w.params 134) (body := bodyAt G.w.params 134) (rs := [.str text]) ["text"] ?hsc rm gl (.cons .str .nil) (g.get (by rfl : (fr.heap_1 G.w.params).lookup 134 = some (objAt G.w.params 134))) rfl
    ⟨133, _, _, _, rfl, g.get rfl, rfl, rfl⟩ rfl rfl rfl rfl ?hnd (by decide) rfl (bind_lx _) ?hk ?main
  case hsc => conv => lhs; whnf
  case hnd => exact of_decide_eq_true (by rfl)
  case hk =>
    intro x hx
    rw [List.mem_singleton.mp hx]
    exact .inl rfl
  case main =>
  intro L s1 hL W hs1
  conv => arg 3; arg 1; whnf
  refine wpAny_execs_cons (Assign_Tuple ?_ rfl rfl)
  refine wpAny_Tuple (wpAny_items_cons ?_ (by rfl))
  refine EvP.run W hs1 (EvP.rev (EvP.listStr (EvE.name (Has.builtin rfl (g.glob rfl) rfl)) (.cons nS .nil) (Nat.le_trans hz (by decide))) (by rw [List.length_map, Array.length_toList]; omega) (chA_atoms _)) fun aS s2 hS x2 hs2 => ?_
  refine wpAny_items_cons ?_ (by rfl)
  refine lam_make g W hs2 rfl rfl (by rfl) (clos := []) (by rfl) fun s3 aF cd0 pm0 ctv0 x3 hs3 hF eF _ _ => ?_
  refine wpAny_items_nil ⟨Nat.le_trans (show (2 : Nat) ≤ 1000 by decide) (by decide), ?_⟩
  have x4 : Ext G s3 { s3 with heap := s3.heap.push { cls := .type "tuple", data := .seq [Value.ref aS, .ref aF].toArray } } := Ext.of (tk := s3.toks) g.toOk fun _ _ e => Heap.get?_push_of_some _ e
  have eF4 : (s3.heap.push { cls := .type "tuple", data := .seq [Value.ref aS, .ref aF].toArray }).get? aF = some _ := Heap.get?_push_of_some _ eF
  have ht4 : (s3.heap.push { cls := .type "tuple", data := .seq [Value.ref aS, .ref aF].toArray }).IsTuple s3.heap.objs.size [Value.ref aS, .ref aF].toArray := ⟨_, Heap.get?_push_size _ rfl, rfl, _, rfl⟩
  have hs4 := FS.add W hs2 (Item.one aF _) (fun b hb => by rw [List.mem_singleton.mp hb]; exact hF) (x3.trans x4) eF4 fun P f t => g.toOk.tmono _ _ _ (g.toOk.tsep _ _ aF _ ((FS.ext W hs2 (x3.trans x4)).tabs P f t) eF4 fun vs q => by cases q) fun b _ p _ => ⟨p.1, fun q => p.2 (List.mem_singleton.mp q)⟩
  refine wpAny_assign_Tuple W.rm.1 ht4 (by rfl) (by rfl) fun h' xb => ?_
  have hs5 := FS.ext W hs4 (Ext.of (tk := s3.toks) (le := Nat.le_refl _) W.g fun b ob e => xb b ob (Nat.ne_of_lt (Heap.lt_size e)) e)
  refine assignInOrder_cons (wpAny_assign_Name (hs5.store W (r := .raw (.ref aS)) (.inr ⟨rfl, L + 1, rfl⟩) .raw fun s6 hs6 => ?_))
  refine assignInOrder_cons (wpAny_assign_Name (hs6.store W (r := .raw (.ref aF)) (.inl rfl) .raw fun s7 hs7 => assignInOrder_nil ?_))
  refine wpAny_execs_cons (plainObj_wpAny_Assign_Attribute ?_ rfl)
  refine lam_make g W hs7 rfl rfl (by rfl) (clos := [("signs", L + 1)]) (by rfl) fun s8 aR cd pm ctv x8 hs8 hR eR hcd hcdP => ?_
  refine EvE.run W hs8 (nL W) fun v s9 x9 y9 hs9 => ?_
  (first | ((first | replace y9 := VR.intI y9 | replace y9 := VR.strI y9); obtain ⟨_, rfl⟩ := y9) | ((first | replace y9 := VR.rawI y9 | replace y9 := VRs.nilI y9 | replace y9 := VR.boolI y9 | replace y9 := VR.noneI y9); subst y9) | cases y9)
  have eF9 := hs9.box _ (.head _)
  refine fn_set (w := G.w) eF9 fun h10 dF tD hdF hdFF gF gD keep => ?_
  have le10 : s9.toks ≤ s9.toks + 1 + 1 := Nat.le_trans (Nat.le_succ _) (Nat.le_succ _)
  have hs10 := FS.setOne W gF hs9 keep le10
  dsimp only
  refine wpAny_execs_cons ?_
  rw [exec_Return_some]
  refine wpAny_bind (wpAny_standAt (wpAny_bind ?_))
  rw [arm_eval_Call_Name']
  refine wpAny_bind (EvE.run W hs10 (EvE.name (Has.global rfl (g.glob rfl))) fun v s11 x11 y11 hs11 => ?_)
  (first | ((first | replace y11 := VR.intI y11 | replace y11 := VR.strI y11); obtain ⟨_, rfl⟩ := y11) | ((first | replace y11 := VR.rawI y11 | replace y11 := VRs.nilI y11 | replace y11 := VR.boolI y11 | replace y11 := VR.noneI y11); subst y11) | cases y11)
  refine callWith_K (K := fr.heap_1 G.w.params) (FS.kin g.toGK rfl W hs11) (by rfl) (wpAny_items_cons (EvE.run W hs11 (nL W) fun v s12 x12 y12 hs12 => ?_) (by rfl))
  (first | ((first | replace y12 := VR.intI y12 | replace y12 := VR.strI y12); obtain ⟨_, rfl⟩ := y12) | ((first | replace y12 := VR.rawI y12 | replace y12 := VRs.nilI y12 | replace y12 := VR.boolI y12 | replace y12 := VR.noneI y12); subst y12) | cases y12)
  refine wpAny_items_nil ⟨FS.kin g.toGK rfl W hs12, ?_⟩
  have X12 := FS.kin g.toGK rfl W hs12
  have gl12 := (hs12.glob W).wk W.g (P' := NT) fun a p => p.1
  have kp12 : Kp Tb s s12 := hs12.kp.mono fun b q => by simpa [fcS] using q
  have fF := hs12.box _ (.head _)
  have fS := hs12.box (Item.plist aS _) (.tail _ (.head _))
  obtain ⟨ov, hcell, hov⟩ := hs12.vars.cel "signs" (L + 1) rfl
  obtain ⟨vS, rfl, yS⟩ := hov (.raw (.ref aS)) rfl
  cases yS
  have e12 : ∀ b o, b ≠ aF → s9.heap.get? b = some o → b ∉ Tb → s12.heap.get? b = some o := fun b o h1 e h2 => x12.keep b o h2 (x11.keep b o h2 (keep b o h1 e))
  have newT : ∀ b, s.heap.get? b = none → b ∉ Tb := fun b e => nt0 W hs12 b e
  have kpn : ∀ {b}, s12.heap.get? b = none → s.heap.get? b = none := fun {b} e => kp12.none e
  refine wpAny_call ?_
  refine make_core (h := s12.heap) (g := s12.gens) (d := s12.drawn) (t := s12.toks) (os := s12.os) (makes_of X12 (by rfl)) (looks_findIn X12 (by rfl : findIn (fr.heap_1 G.w.params) (.ref 123) "__init__" = some (some (.ref 99)))) (fun self => bind_fn X12 self (by rfl)) (.inl rfl) ?_
  have hdx : ((s12.heap.push emptyDict).push (instObj 123 s12.heap.objs.size)).get? s12.heap.objs.size = some emptyDict := Heap.get?_push_of_some _ (Heap.get?_push_size _ rfl)
  have hix : ((s12.heap.push emptyDict).push (instObj 123 s12.heap.objs.size)).get? (s12.heap.objs.size + 1) = some (instObj 123 s12.heap.objs.size) := by
    have := Heap.get?_push_size (s12.heap.push emptyDict) (o := instObj 123 s12.heap.objs.size) rfl
    rwa [Heap.size_push] at this
  have nd1 : s12.heap.get? s12.heap.objs.size = none := size_none _
  have nx1 : s12.heap.get? (s12.heap.objs.size + 1) = none := ge_none (Nat.le_succ _)
  generalize hdxe : s12.heap.objs.size = dx at *
  have hne : dx + 1 ≠ dx := Nat.succ_ne_self dx
  have x13 : Ext G s12 { s12 with heap := (s12.heap.push emptyDict).push (instObj 123 dx) } := Ext.of (tk := s12.toks) g.toOk fun _ _ e => Heap.get?_push_of_some _ (Heap.get?_push_of_some _ e)
  have hs13 := FS.ext W hs12 x13
  have gl13 := (hs13.glob W).wk W.g (P' := NT) fun a p => p.1
  have gn : ∀ b, s.heap.get? b = none → G.g.get? b = none := fun b e => by
    cases e2 : G.g.get? b with
    | none => rfl
    | some o => have := gl.keep _ _ e2; rw [e] at this; cases this
  refine fn_init g (s := { s12 with heap := (s12.heap.push emptyDict).push (instObj 123 dx) }) (under_rm ((deeper_rm rm).le (by decide)) _) gl13 hne hix hdx (fun b hb => ?_) fun s' k1 k2 k3 k4 t' w aP m cx' gI gD' nP hP => ?_
  · simp only [List.mem_cons, List.not_mem_nil, or_false] at hb
    rcases hb with rfl | rfl
    · exact ⟨newT _ (kpn nx1), gn _ (kpn nx1)⟩
    · exact ⟨newT _ (kpn nd1), gn _ (kpn nd1)⟩
  refine ⟨rfl, wpAny_pure ?_⟩
  show Q (.ref (dx + 1)) s'
  have keepE : ∀ b o, b ∉ Tb → s12.heap.get? b = some o → s'.heap.get? b = some o := fun b o hb e => cx'.kp.keep b o (fun q => (List.mem_append.mp q).elim hb fun q => by
    simp only [List.mem_cons, List.not_mem_nil, or_false] at q
    rcases q with rfl | rfl
    · rw [nx1] at e; cases e
    · rw [nd1] at e; cases e) (x13.keep b o hb e)
  have liveF : ∀ {b o}, s12.heap.get? b = some o → b ≠ dx ∧ b ≠ dx + 1 ∧ b ≠ aP := fun {b o} e => ⟨get_ne e nd1, get_ne e nx1, get_ne (x13.live b o e).choose_spec nP⟩
  have n12 : ∀ {b}, s12.heap.get? b = none → s.heap.get? b = none := fun {b} e => kpn e
  have nS : s.heap.get? aS = none := hs1.kp.none hS
  have nF : s.heap.get? aF = none := hs2.kp.none hF
  have nR : s.heap.get? aR = none := hs7.kp.none hR
  have nD : s.heap.get? dF = none := hs9.kp.none hdF
  have nC : s.heap.get? (L + 1) = none := (hs12.new (L + 1) (mem_MUs.mpr (.inl (.tail _ (.head _))))).resolve_left (by intro q; cases q)
  have nPs : s.heap.get? aP = none := kpn (x13.toKp.none nP)
  obtain ⟨oC, eC, dC⟩ := hcell
  obtain ⟨vs, mS, hlS, hvS⟩ := fS
  obtain ⟨vs2, m2, hl2, -⟩ := hs2.box (Item.plist aS _) (.head _)
  obtain ⟨vs7, m7, hl7, -⟩ := hs7.box (Item.plist aS _) (.tail _ (.head _))
  obtain ⟨vs9, m9, hl9, -⟩ := hs9.box (Item.plist aS _) (.tail _ (.head _))
  obtain ⟨oc1, eC1⟩ := hs1.live (L + 1) (mem_MUs.mpr (.inl (.tail _ (.head _))))
  obtain ⟨oc2, eC2⟩ := hs2.live (L + 1) (mem_MUs.mpr (.inl (.tail _ (.head _))))
  obtain ⟨oc7, eC7⟩ := hs7.live (L + 1) (mem_MUs.mpr (.inl (.tail _ (.head _))))
  obtain ⟨oc9, eC9⟩ := hs9.live (L + 1) (mem_MUs.mpr (.inl (.tail _ (.head _))))
  have eF7 : s7.heap.get? aF = some _ := hs7.box _ (.head _)
  have eR9 : s9.heap.get? aR = _ := x9.keep _ _ (newT _ nR) eR
  have neRF : aR ≠ aF := fun q => get_ne eF7 hR q.symm
  have eR12 : s12.heap.get? aR = _ := e12 aR _ neRF eR9 (newT _ nR)
  have eD12 : s12.heap.get? dF = _ := x12.keep _ _ (newT _ nD) (x11.keep _ _ (newT _ nD) gD)
  obtain ⟨oc, vsc, tc, c1, c2, c3⟩ := hcd
  have ntc : cd ∉ Tb := (hcdP NT (fun b e => newT b e) gl.tabs).1
  have c9 : s9.heap.get? cd = _ := x9.keep _ _ ntc c1
  have c12 : s12.heap.get? cd = _ := e12 cd _ (fun q => by rw [q, eF9] at c9; cases c9; cases c2) c9 ntc
  have a1 := liveF fF
  have a2 := liveF eD12
  have a3 := liveF eR12
  have a4 := liveF eC
  have a5 := liveF hlS
  have kk : Kp (Tb ++ [dx + 1, dx]) s s' := (kp12.mono fun b q => List.mem_append_left _ q).trans ((x13.toKp.mono fun b q => List.mem_append_left _ q).trans cx'.kp)
  refine k ⟨dx + 1, dx, aF, dF, aR, L + 1, aS, aP, cd⟩ s' ⟨⟨⟨kk.same, fun b o h e => keepE b o h (kp12.keep b o h e), kk.live, kk.le⟩, fun P f t => ?_⟩, ?_, ?_, ⟨gI, ⟨_, _, _, _, _, _, gD'⟩, ⟨m, hP⟩, ⟨_, _, keepE aF _ (newT _ nF) fF⟩, ⟨_, keepE dF _ (newT _ nD) eD12⟩, ⟨pm, ctv, oc, vsc, tc, keepE aR _ (newT _ nR) eR12, trivial, keepE cd _ ntc c12, c2, c3⟩, ⟨oC, keepE _ _ (newT _ nC) eC, dC⟩, ⟨vs, mS, keepE aS _ (newT _ nS) hlS, ?_⟩⟩, fun P f t => (hcdP P f t).1⟩
  · exact cx'.tabs P (fun b e => f b (kpn (x13.toKp.none e))) (x13.tabs P (fun b e => f b (kpn e)) (g.toOk.tmono _ _ _ (hs12.tabs P f t) fun a _ p _ => p.1))
  · simp only [LexA.ad, List.mem_cons, List.not_mem_nil, or_false]
    rintro b (rfl | rfl | rfl | rfl | rfl | rfl | rfl | rfl)
    · exact kpn nx1
    · exact kpn nd1
    · exact nF
    · exact nD
    · exact nR
    · exact nC
    · exact nS
    · exact nPs
  · simp only [LexA.ad, List.nodup_cons, List.mem_cons, List.not_mem_nil, or_false, not_or, not_false_eq_true, and_true, List.nodup_nil]
    refine ⟨⟨hne, a1.2.1.symm, a2.2.1.symm, a3.2.1.symm, a4.2.1.symm, a5.2.1.symm, get_ne hix nP⟩, ⟨a1.1.symm, a2.1.symm, a3.1.symm, a4.1.symm, a5.1.symm, get_ne hdx nP⟩, ⟨get_ne eF9 hdF, neRF.symm, (get_ne eC2 hF).symm, (get_ne hl2 hF).symm, a1.2.2⟩, ⟨(get_ne eR9 hdF).symm, (get_ne eC9 hdF).symm, (get_ne hl9 hdF).symm, a2.2.2⟩, ⟨(get_ne eC7 hR).symm, (get_ne hl7 hR).symm, a3.2.2⟩, ⟨get_ne eC1 hS, a4.2.2⟩, a5.2.2⟩
  · rw [List.map_reverse]
    exact hvS.atoms (by rw [List.all_reverse]; exact chA_atoms _) (Nat.le_trans x13.le cx'.kp.le)
noncomputable def isPl : AV → Bool
  | .int _ => true
  | .str _ => true
  | _ => false
section
variable {A : Around} {s : Shared} {h h1 h2 : Heap} {τ τ1 τ2 : Nat} {P P1 P2 : Addr → Prop}
theorem eqAt_pl {x : AV} {v u : Value} (hx : isPl x = true) (y1 : VR h1 τ1 P1 x v) (y2 : VR h2 τ2 P2 x u) : SeqAt.EqAt A s v u true := by
  cases y1 with
  | @int i t => cases y2 with
    | @int _ u => exact (beq_self_eq_true i) ▸ SeqAt.EqAt.int_int (A := A) (s := s) i t i u
  | @str x t => cases y2 with
    | @str _ u => exact (beq_self_eq_true x) ▸ SeqAt.EqAt.str_str (A := A) (s := s) x t x u
  | _ => simp [isPl] at hx
theorem VRs.at {xs vs} (y : VRs h τ P xs vs) {j : Nat} (hj : j < vs.length) : ∃ x ∈ xs, VR h τ P x vs[j] := by
  have hj' : j < xs.length := by rw [y.length]; exact hj
  obtain ⟨v, e, r⟩ := y.get j (List.getElem?_eq_getElem hj')
  rw [List.getElem?_eq_getElem hj] at e
  cases e
  exact ⟨_, List.getElem_mem hj', r⟩
theorem VRs.at2 {xs vs us} (y : VRs h1 τ1 P1 xs vs) (z : VRs h2 τ2 P2 xs us) {j : Nat} (hj : j < vs.length) (hk : j < us.length) : ∃ x ∈ xs, VR h1 τ1 P1 x vs[j] ∧ VR h2 τ2 P2 x us[j] := by
  have hj' : j < xs.length := by rw [y.length]; exact hj
  obtain ⟨v, e, r⟩ := y.get j (List.getElem?_eq_getElem hj')
  obtain ⟨u, e2, r2⟩ := z.get j (List.getElem?_eq_getElem hj')
  rw [List.getElem?_eq_getElem hj] at e
  rw [List.getElem?_eq_getElem hk] at e2
  cases e; cases e2
  exact ⟨_, List.getElem_mem hj', r, r2⟩
theorem allT (n : Nat) : ((List.range n).all fun _ => true) = true := by simp
theorem rcNe_list {xs : List AV} {a b : Addr} {vs us : List Value} (hu : A.units < cLine) (l1 : s.heap.IsList a vs.toArray) (l2 : s.heap.IsList b us.toArray) (y1 : VRs h1 τ1 P1 xs vs) (y2 : VRs h2 τ2 P2 xs us) (he : ∀ x ∈ xs, ∀ v u, VR h1 τ1 P1 x v → VR h2 τ2 P2 x u → SeqAt.EqAt A.in1 s v u true) : SeqAt.RcNeAt A s (.ref a) (.ref b) false := by
  have hl : vs.length = us.length := y1.length.symm.trans y2.length
  have := SeqAt.RcNeAt.lists (A := A) (e := fun _ => true) l1 l2 (by simpa using hl) hu fun j h1 h2 => by
    obtain ⟨x, hx, r1, r2⟩ := y1.at2 y2 (j := j) (by simpa using h1) (by simpa using h2)
    simpa using he x hx _ _ r1 r2
  rw [allT] at this
  exact this
theorem rc_list {xs : List AV} {a b : Addr} {vs us : List Value} (hu : A.units < cLine) (l1 : s.heap.IsList a vs.toArray) (l2 : s.heap.IsList b us.toArray) (y1 : VRs h1 τ1 P1 xs vs) (y2 : VRs h2 τ2 P2 xs us) (he : ∀ x ∈ xs, ∀ v u, VR h1 τ1 P1 x v → VR h2 τ2 P2 x u → SeqAt.EqAt A.in1 s v u true) : SeqAt.RcAt A s (.ref a) (.ref b) true := by
  have hl : vs.length = us.length := y1.length.symm.trans y2.length
  have := SeqAt.RcAt.lists (A := A) (e := fun _ => true) l1 l2 (by simpa using hl) hu fun j h1 h2 => by
    obtain ⟨x, hx, r1, r2⟩ := y1.at2 y2 (j := j) (by simpa using h1) (by simpa using h2)
    simpa using he x hx _ _ r1 r2
  rw [allT] at this
  exact this
theorem eqAt_list {xs : List AV} {v u : Value} (hu : A.units < cLine) (hx : xs.all isPl = true) (y1 : VR s.heap τ1 P1 (.list xs) v) (y2 : VR s.heap τ2 P2 (.list xs) u) : SeqAt.EqAt A s v u true := by
  replace y1 := VR.listI y1
  obtain ⟨a, vs, rfl, pa, l1, r1⟩ := y1
  ·
    replace y2 := VR.listI y2
    obtain ⟨b, us, rfl, pb, l2, r2⟩ := y2
    ·
      by_cases q : a = b
      · rw [q]; exact SeqAt.EqAt.same _
      · exact SeqAt.EqAt.of_refs q (rc_list hu l1 l2 r1 r2 fun x m v u z1 z2 => eqAt_pl (List.all_eq_true.mp hx x m) z1 z2)
end
section
variable {c : Cx}
noncomputable def isPl2 : AV → Bool
  | .list ys => ys.all isPl
  | x => isPl x
theorem eqAt_pl2 {A : Around} {s : Shared} {τ1 τ2 : Nat} {P1 P2 : Addr → Prop} {x : AV} {v u : Value} (hu : A.units < cLine) (hx : isPl2 x = true) (y1 : VR s.heap τ1 P1 x v) (y2 : VR s.heap τ2 P2 x u) : SeqAt.EqAt A s v u true := by
  cases x with
  | list ys => exact eqAt_list hu hx y1 y2
  | int i => exact eqAt_pl (x := .int i) rfl y1 y2
  | str i => exact eqAt_pl (x := .str i) rfl y1 y2
  | _ => exact nomatch (show false = true from hx)
theorem CmR.neLL {xs : List AV} (hx : xs.all isPl2 = true) : CmR c .NotEq (.list xs) (.list xs) false := by
  intro o s v1 v2 hs y1 y2 Q E k
  have hu : c.A.units + 1 < cLine := by have := o.units; omega
  replace y1 := VR.listI y1
  obtain ⟨a, vs, rfl, pa, l1, r1⟩ := y1
  ·
    replace y2 := VR.listI y2
    obtain ⟨b, us, rfl, pb, l2, r2⟩ := y2
    ·
      exact EqBoolInt.of_rcne (rcNe_list (by omega) l1 l2 r1 r2 fun x m v u z1 z2 => eqAt_pl2 hu (List.all_eq_true.mp hx x m) z1 z2) (k s (.refl s))
theorem CmR.eqLL {xs : List AV} (hx : xs.all isPl2 = true) : CmR c .Eq (.list xs) (.list xs) true := by
  intro o s v1 v2 hs y1 y2 Q E k
  have hu : c.A.units + 1 < cLine := by have := o.units; omega
  replace y1 := VR.listI y1
  obtain ⟨a, vs, rfl, pa, l1, r1⟩ := y1
  ·
    replace y2 := VR.listI y2
    obtain ⟨b, us, rfl, pb, l2, r2⟩ := y2
    ·
      exact EqBoolInt.of_rc (rc_list (by omega) l1 l2 r1 r2 fun x m v u z1 z2 => eqAt_pl2 hu (List.all_eq_true.mp hx x m) z1 z2) (k s (.refl s))
theorem CmR.neL0 {xs : List AV} : CmR c .NotEq (.list xs) (.list []) (!xs.isEmpty) := by
  intro o s v1 v2 hs y1 y2 Q E k
  have hu : c.A.units < cLine := by have := o.units; omega
  replace y1 := VR.listI y1
  obtain ⟨a, vs, rfl, pa, l1, r1⟩ := y1
  ·
    replace y2 := VR.listI y2
    obtain ⟨b, us, rfl, pb, l2, r2⟩ := y2
    ·
      cases r2
      cases xs with
      | nil =>
        cases r1
        exact EqBoolInt.of_rcne (rcNe_list (xs := []) hu l1 l2 .nil (VRs.nil (h := s.heap) (τ := 0) (P := c.P)) (h1 := s.heap) (τ1 := 0) (P1 := c.P) fun x m => nomatch m) (k s (.refl s))
      | cons x xs =>
        have := r1.length
        refine EqBoolInt.of_rcne (SeqAt.RcNeAt.lists_lengths l1 l2 ?_ hu) (k s (.refl s))
        simp only [List.size_toArray, List.length_nil, List.length_cons] at this ⊢
        rw [← this]; rfl
theorem CaR.index {x y : Str} {i : Nat} {r : List Nat} (h : Builtin.Str.occurrences x y 0 x.length 1 = i :: r) : CaR c (.builtin "str.index") [.str x, .str y] (.int i) := by
  intro o s vs hs y Q E k
  replace y := VRs.consI y
  obtain ⟨_, _, rfl, y1, y2⟩ := y
  ·
    (first | ((first | replace y1 := VR.intI y1 | replace y1 := VR.strI y1); obtain ⟨_, rfl⟩ := y1) | ((first | replace y1 := VR.rawI y1 | replace y1 := VRs.nilI y1 | replace y1 := VR.boolI y1 | replace y1 := VR.noneI y1); subst y1) | cases y1)
    replace y2 := VRs.consI y2
    obtain ⟨_, _, rfl, y2, y3⟩ := y2
    · (first | ((first | replace y3 := VR.intI y3 | replace y3 := VR.strI y3); obtain ⟨_, rfl⟩ := y3) | ((first | replace y3 := VR.rawI y3 | replace y3 := VRs.nilI y3 | replace y3 := VR.boolI y3 | replace y3 := VR.noneI y3); subst y3) | cases y3); (first | ((first | replace y2 := VR.intI y2 | replace y2 := VR.strI y2); obtain ⟨_, rfl⟩ := y2) | ((first | replace y2 := VR.rawI y2 | replace y2 := VRs.nilI y2 | replace y2 := VR.boolI y2 | replace y2 := VR.noneI y2); subst y2) | cases y2); exact SC.index h (k _ _ .tok .int)
theorem MeR.index {x : Str} : MeR c (.str x) "index" "str.index" := fun ok s v E hs y pl Q q => by
  (first | ((first | replace y := VR.intI y | replace y := VR.strI y); obtain ⟨_, rfl⟩ := y) | ((first | replace y := VR.rawI y | replace y := VRs.nilI y | replace y := VR.boolI y | replace y := VR.noneI y); subst y) | cases y); exact GM.index q
theorem CaR.count {x y : Str} : CaR c (.builtin "str.count") [.str x, .str y] (.int (Txt.count x y)) := by
  intro o s vs hs y Q E k
  replace y := VRs.consI y
  obtain ⟨_, _, rfl, y1, y2⟩ := y
  ·
    (first | ((first | replace y1 := VR.intI y1 | replace y1 := VR.strI y1); obtain ⟨_, rfl⟩ := y1) | ((first | replace y1 := VR.rawI y1 | replace y1 := VRs.nilI y1 | replace y1 := VR.boolI y1 | replace y1 := VR.noneI y1); subst y1) | cases y1)
    replace y2 := VRs.consI y2
    obtain ⟨_, _, rfl, y2, y3⟩ := y2
    · (first | ((first | replace y3 := VR.intI y3 | replace y3 := VR.strI y3); obtain ⟨_, rfl⟩ := y3) | ((first | replace y3 := VR.rawI y3 | replace y3 := VRs.nilI y3 | replace y3 := VR.boolI y3 | replace y3 := VR.noneI y3); subst y3) | cases y3); (first | ((first | replace y2 := VR.intI y2 | replace y2 := VR.strI y2); obtain ⟨_, rfl⟩ := y2) | ((first | replace y2 := VR.rawI y2 | replace y2 := VRs.nilI y2 | replace y2 := VR.boolI y2 | replace y2 := VR.noneI y2); subst y2) | cases y2); exact SC.count (k _ _ .tok .int)
theorem MeR.count {x : Str} : MeR c (.str x) "count" "str.count" := fun ok s v E hs y pl Q q => by
  (first | ((first | replace y := VR.intI y | replace y := VR.strI y); obtain ⟨_, rfl⟩ := y) | ((first | replace y := VR.rawI y | replace y := VRs.nilI y | replace y := VR.boolI y | replace y := VR.noneI y); subst y) | cases y); exact GM.count q
theorem MeR.split {x : Str} : MeR c (.str x) "split" "str.split" := fun ok s v E hs y pl Q q => by
  (first | ((first | replace y := VR.intI y | replace y := VR.strI y); obtain ⟨_, rfl⟩ := y) | ((first | replace y := VR.rawI y | replace y := VRs.nilI y | replace y := VR.boolI y | replace y := VR.noneI y); subst y) | cases y); exact GM.split q
theorem VRs.strs {h : Heap} {τ : Nat} {P : Addr → Prop} : ∀ (l : List (Str × Tok)), VRs h τ P ((l.map (·.1)).map AV.str) (strValues l)
  | [] => .nil
  | p :: l => .cons .str (VRs.strs l)
theorem CaR.split {x y : Str} (hy : (y.length == 0) = false) (hx : x.length ≤ 1000000) (hz : (Builtin.Str.partsBetween x (Builtin.Str.occurrences x y 0 x.length (x.length + 1)) y.length).length ≤ 1000000) : CaR c (.builtin "str.split") [.str x, .str y] (.list ((Txt.split x y).map .str)) := by
  intro o s vs hs y Q E k
  replace y := VRs.consI y
  obtain ⟨_, _, rfl, y1, y2⟩ := y
  ·
    (first | ((first | replace y1 := VR.intI y1 | replace y1 := VR.strI y1); obtain ⟨_, rfl⟩ := y1) | ((first | replace y1 := VR.rawI y1 | replace y1 := VRs.nilI y1 | replace y1 := VR.boolI y1 | replace y1 := VR.noneI y1); subst y1) | cases y1)
    replace y2 := VRs.consI y2
    obtain ⟨_, _, rfl, y2, y3⟩ := y2
    ·
      (first | ((first | replace y3 := VR.intI y3 | replace y3 := VR.strI y3); obtain ⟨_, rfl⟩ := y3) | ((first | replace y3 := VR.rawI y3 | replace y3 := VRs.nilI y3 | replace y3 := VR.boolI y3 | replace y3 := VR.noneI y3); subst y3) | cases y3); (first | ((first | replace y2 := VR.intI y2 | replace y2 := VR.strI y2); obtain ⟨_, rfl⟩ := y2) | ((first | replace y2 := VR.rawI y2 | replace y2 := VRs.nilI y2 | replace y2 := VR.boolI y2 | replace y2 := VR.noneI y2); subst y2) | cases y2)
      rename_i t u
      have nw := size_none s.heap
      have fin : ∀ (tk : Nat) (l : List (Str × Tok)), s.toks ≤ tk → l.map (·.1) = Txt.split x y → Q (.ref s.heap.objs.size) { s with toks := tk, heap := s.heap.push { cls := .type "list", data := .seq (strValues l).toArray } } := fun tk l le e => by
        refine k _ _ (Ext.of (tk := tk) (le := le) o.g fun b ob e => Heap.get?_push_of_some _ e) (.list (o.fresh s _ hs nw) ⟨_, Heap.get?_push_size _ rfl, rfl, _, rfl⟩ ?_)
        rw [← e]
        exact VRs.strs l
      cases h1 : (decide (x.length < y.length) || decide (Builtin.Str.strKind x < Builtin.Str.strKind y))
      · cases hf : (Builtin.Str.occurrences x y 0 x.length (x.length + 1)).isEmpty
        · refine call_meets F.slot_str_split (typeIs_str _ _ _) F.entry_str_split (F.args_str_split_2 _ _) (meets_str_split_sep x y t u h1 hy hf (Nat.le_trans hx (by decide)) (Nat.le_trans hz (by decide))) ?_
          show wants Q E _ { s with toks := _, heap := s.heap.push { cls := .type "list", data := .seq (strsFrom s.toks (Builtin.Str.partsBetween x (Builtin.Str.occurrences x y 0 x.length (x.length + 1)) y.length)).toArray } }
          rw [strsFrom_eq]
          exact fin _ (numbered s.toks _) (Nat.le_add_right _ _) ((numbered_texts _ _).trans ((if_neg (ne_true_of_eq_false h1)).trans (if_neg (ne_true_of_eq_false hf))).symm)
        · exact call_meets F.slot_str_split (typeIs_str _ _ _) F.entry_str_split (F.args_str_split_2 _ _) (meets_str_split_not_found x y t u h1 hy hf)
            (fin s.toks [(x, t)] (Nat.le_refl _) ((if_neg (ne_true_of_eq_false h1)).trans (if_pos hf)).symm)
      · exact call_meets F.slot_str_split (typeIs_str _ _ _) F.entry_str_split (F.args_str_split_2 _ _) (meets_str_split_cannot_occur x y t u h1)
          (fin s.toks [(x, t)] (Nat.le_refl _) (if_pos h1).symm)
noncomputable def LHas (c : Cx) (a : Addr) (xs : List AV) : Prop := c.Ok → ∀ s, c.Φ s → a ∉ Tb ∧ ∃ vs n, IsL s.heap a vs.toArray n ∧ VRs s.heap s.toks (fun _ => True) xs vs
theorem LHas.cs {fc : FC} {s0 : Shared} {σ : List (Str × AV)} {β : List Item} (W : fc.Ok) {a : Addr} {xs : List AV} (ha : xs.all AV.atom = true) (hb : Item.plist a xs ∈ β) : LHas (cs fc s0 σ β) a xs := fun _ s hs => by
  obtain ⟨vs, n, hl, hv⟩ := hs.box _ hb
  exact ⟨FS.mut W hs (mem_MUs.mpr (.inr ⟨_, hb, .head _⟩)), vs, n, hl, hv.atoms ha⟩
theorem LHas.inner (o : c.Ok) {a : Addr} {xs : List AV} (ha : xs.all AV.atom = true) {scope : Scope} {C : Addr} {MU : List Addr} {σ : List (Str × AV)} (h : LHas c a xs) : LHas (c.inner scope C MU σ) a xs := fun _ s hs => by
  obtain ⟨s0, h0, x0, hn⟩ := hs.base
  obtain ⟨ht, vs, n, hl, hv⟩ := h o s0 h0
  exact ⟨ht, vs, n, x0.keep _ _ ht hl, hv.atoms ha x0.le⟩
theorem EvE.names {o e : Expr} {p1 p2 : Pos} {a : Addr} {i : Nat} (hi : i < 6) (h : EvE c o (.raw (.ref a))) (hL : LHas c a (flagNames.map .str)) (he : EvE c e (.str (flagName i)))
    (hbase : attributeBase o "index" c.env (eval o c.env) = eval o c.env := by rfl) (hform : methodCallForm ([e].length + 0) (backTo p2 (starEach [e] c.env)) [] = true := by rfl) (hline : (p1.endLine == p2.line) = true := by rfl) (hst : starEach [e] c.env = [(false, eval e c.env)] := by rfl) :
    EvE c (.Call (.Attribute o "index" p1) [e] [] p2) (.int i) := fun ok s hs Q E k => by
  refine meth_eval (id := "list.index") ?_ hbase hform hline
  refine h ok s hs _ _ fun v s1 x1 y1 => ?_
  (first | ((first | replace y1 := VR.intI y1 | replace y1 := VR.strI y1); obtain ⟨_, rfl⟩ := y1) | ((first | replace y1 := VR.rawI y1 | replace y1 := VRs.nilI y1 | replace y1 := VR.boolI y1 | replace y1 := VR.noneI y1); subst y1) | cases y1)
  have hs1 := ok.stab _ _ hs x1
  obtain ⟨ht, vs, n, hl, hv⟩ := hL ok s1 hs1
  refine ⟨fun pl Q' q => getMethod_list_of F.slot_list_index F.type_list_index hl.isList ⟨_, hl, rfl⟩ q, ?_⟩
  refine callW ok hs1 .builtin (.cons he .nil hst) fun us s2 x2 y2 => ?_
  replace y2 := VRs.consI y2
  obtain ⟨_, _, rfl, z, y2⟩ := y2
  (first | ((first | replace y2 := VR.intI y2 | replace y2 := VR.strI y2); obtain ⟨_, rfl⟩ := y2) | ((first | replace y2 := VR.rawI y2 | replace y2 := VRs.nilI y2 | replace y2 := VR.boolI y2 | replace y2 := VR.noneI y2); subst y2) | cases y2)
  (first | ((first | replace z := VR.intI z | replace z := VR.strI z); obtain ⟨_, rfl⟩ := z) | ((first | replace z := VR.rawI z | replace z := VRs.nilI z | replace z := VR.boolI z | replace z := VR.noneI z); subst z) | cases z)
  rename_i tt
  have hl2 : IsL s2.heap a vs.toArray n := x2.keep _ _ ht hl
  have hv2 : VRs s2.heap s2.toks (fun _ => True) (flagNames.map .str) vs := hv.atoms (map_allS _) x2.le
  obtain ⟨l, e1, e2⟩ := strs_of hv2
  subst e1
  have hz : l.length = 6 := by have := congrArg List.length e2; simpa [flagNames] using this
  have sz : (strValues l).toArray.size = 6 := by simp [strValues, hz]
  have at' : ∀ (m : Nat) (hm : m < (strValues l).toArray.size), ∃ t, (strValues l).toArray[m] = .str (flagName m) t := fun m hm => by
    have hm' : m < l.length := by rw [hz, ← sz]; exact hm
    refine ⟨l[m].2, ?_⟩
    have : l[m].1 = flagName m := by
      have e3 : (l.map (·.1))[m]? = flagNames[m]? := by rw [e2]
      rw [List.getElem?_map, List.getElem?_eq_getElem hm'] at e3
      unfold flagName
      rw [List.getD_eq_getElem?_getD, ← e3]; rfl
    simp [strValues, this]
  refine call_meets F.slot_list_index ⟨_, hl2, rfl⟩ F.entry_list_index (F.args_list_index_2 _ _)
    (SeqAt.list_indexAt a (strValues l).toArray n none #[] (.str (flagName i) tt) (fun v => match v with | .str x _ => x == flagName i | _ => false) i (by rw [sz]; exact hi) (by omega) ?_ ?_) ⟨hl2, fun y hy => ?_, k _ _ ((x1.trans x2).trans .tok) .int⟩
  · obtain ⟨t, e⟩ := at' i (by rw [sz]; exact hi)
    rw [e]; exact beq_self_eq_true _
  · intro m hm hlt
    obtain ⟨t, e⟩ := at' m hm
    rw [e]
    show (flagName m == flagName i) = false
    have : ∀ i < 6, ∀ m < i, (flagName m == flagName i) = false := by decide
    exact this i hi m hlt
  · obtain ⟨m, hm, e⟩ := Array.getElem_of_mem hy
    obtain ⟨t, e'⟩ := at' m hm
    rw [← e, e']
    exact SeqAt.EqAt.str_str _ _ _ _
end
section
variable {c : Cx}
theorem VRs.take {h : Heap} {τ : Nat} {P : Addr → Prop} : ∀ (n : Nat) {xs vs}, VRs h τ P xs vs → VRs h τ P (xs.take n) (vs.take n)
  | 0, _, _, y => by simpa using VRs.nil
  | n + 1, _, _, .nil => .nil
  | n + 1, _, _, .cons a t => .cons a (VRs.take n t)
theorem VRs.drop {h : Heap} {τ : Nat} {P : Addr → Prop} : ∀ (n : Nat) {xs vs}, VRs h τ P xs vs → VRs h τ P (xs.drop n) (vs.drop n)
  | 0, _, _, y => y
  | n + 1, _, _, .nil => .nil
  | n + 1, _, _, .cons _ t => VRs.drop n t
theorem EvE.listTo {value : Expr} {n : Nat} {k0 p0 p pos} {xs : List AV} (h : EvE c value (.list xs)) (hx : xs.length ≤ 1000000) (ht : ∀ o r, letTemporaryGo value o r = pure () := by intro _ _; rfl) :
    EvE c (.Subscript value (.Slice none (some (.Constant (.int (n : Int)) k0 p0)) none p) pos) (.list (xs.take n)) := fun o s hs Q E kk => by
  refine wpAny_Subscript_list_slice ?_ ht
  refine h o s hs _ _ fun v s1 x1 y1 => ?_
  have hs1 := o.stab _ _ hs x1
  refine wpAny_evalPart_none (wpAny_evalPart_some (wpAny_Constant_int ?_))
  replace y1 := VR.listI y1
  obtain ⟨l, vs, rfl, pl, hl, hv⟩ := y1
  ·
    have hlen := hv.length
    refine ⟨l, vs.toArray, none, some (n : Int), rfl, hl, by rw [List.size_toArray, ← hlen]; exact Nat.le_trans hx (by decide), .none, .int _ _, ?_⟩
    rw [kms_pick_eq]
    have e : kms_pick vs.toArray.toList none (some (n : Int)) = vs.take n := by
      unfold kms_pick kms_lo kms_hi
      simp only [List.drop_zero, Nat.sub_zero]
      rw [if_neg (by omega)]
      show vs.take (min n vs.length) = _
      by_cases q : n ≤ vs.length
      · rw [Nat.min_eq_left q]
      · rw [Nat.min_eq_right (by omega), List.take_of_length_le (Nat.le_refl _), List.take_of_length_le (by omega)]
    rw [e]
    have x2 : Ext c.G s1 { s1 with heap := (s1.heap.push { cls := .type "slice", data := .fields #[.none, .int (n : Int) s1.toks, .none] }).push { cls := .type "list", data := .seq (vs.take n).toArray }, toks := s1.toks + 1 } := Ext.of (tk := s1.toks + 1) o.g fun _ _ e => Heap.get?_push_of_some _ (Heap.get?_push_of_some _ e)
    have nw : s1.heap.get? (s1.heap.objs.size + 1) = none := ge_none (Nat.le_succ _)
    have this := Heap.get?_push_size (s1.heap.push { cls := .type "slice", data := .fields #[.none, .int (n : Int) s1.toks, .none] }) (o := { cls := .type "list", data := .seq (vs.take n).toArray }) rfl
    rw [Heap.size_push] at this
    exact kk _ _ (x1.trans x2) (.list (vs := vs.take n) (o.fresh _ _ hs1 nw) ⟨_, this, rfl, _, rfl⟩ ((VRs.take n hv).ext o x2))
theorem EvE.listFrom {value : Expr} {n : Nat} {k0 p0 p pos} {xs : List AV} (h : EvE c value (.list xs)) (hx : xs.length ≤ 1000000) (ht : ∀ o r, letTemporaryGo value o r = pure () := by intro _ _; rfl) :
    EvE c (.Subscript value (.Slice (some (.Constant (.int (n : Int)) k0 p0)) none none p) pos) (.list (xs.drop n)) := fun o s hs Q E kk => by
  refine wpAny_Subscript_list_slice ?_ ht
  refine h o s hs _ _ fun v s1 x1 y1 => ?_
  have hs1 := o.stab _ _ hs x1
  refine wpAny_evalPart_some (wpAny_Constant_int (wpAny_evalPart_none ?_))
  replace y1 := VR.listI y1
  obtain ⟨l, vs, rfl, pl, hl, hv⟩ := y1
  ·
    have hlen := hv.length
    refine ⟨l, vs.toArray, some (n : Int), none, rfl, hl, by rw [List.size_toArray, ← hlen]; exact Nat.le_trans hx (by decide), .int _ _, .none, ?_⟩
    rw [kms_pick_eq]
    have e : kms_pick vs.toArray.toList (some (n : Int)) none = vs.drop n := by
      unfold kms_pick kms_lo kms_hi
      have e0 : ¬ ((n : Int) < 0) := by omega
      simp only [if_neg e0]
      show (vs.drop (min n vs.length)).take (vs.length - min n vs.length) = _
      by_cases q : n ≤ vs.length
      · rw [Nat.min_eq_left q, List.take_of_length_le (by simp)]
      · rw [Nat.min_eq_right (by omega), List.drop_of_length_le (Nat.le_refl _), List.drop_of_length_le (by omega)]; simp
    rw [e]
    have x2 : Ext c.G s1 { s1 with heap := (s1.heap.push { cls := .type "slice", data := .fields #[.int (n : Int) s1.toks, .none, .none] }).push { cls := .type "list", data := .seq (vs.drop n).toArray }, toks := s1.toks + 1 } := Ext.of (tk := s1.toks + 1) o.g fun _ _ e => Heap.get?_push_of_some _ (Heap.get?_push_of_some _ e)
    have nw : s1.heap.get? (s1.heap.objs.size + 1) = none := ge_none (Nat.le_succ _)
    have this := Heap.get?_push_size (s1.heap.push { cls := .type "slice", data := .fields #[.int (n : Int) s1.toks, .none, .none] }) (o := { cls := .type "list", data := .seq (vs.drop n).toArray }) rfl
    rw [Heap.size_push] at this
    exact kk _ _ (x1.trans x2) (.list (vs := vs.drop n) (o.fresh _ _ hs1 nw) ⟨_, this, rfl, _, rfl⟩ ((VRs.drop n hv).ext o x2))
noncomputable def i2 (a b : Int) : Nat → Int
  | 0 => a
  | _ => b
theorem items2 {a b : Int} {t u : Tok} {i : Nat} {x : Value} (h : (#[Value.int a t, Value.int b u] : Array Value)[i]? = some x) : ∃ w, x = .int (i2 a b i) w := by
  match i, h with
  | 0, h => simp at h; exact ⟨t, h.symm⟩
  | 1, h => simp at h; exact ⟨u, h.symm⟩
  | k + 2, h => simp at h
theorem CaR.min2 {a b : Int} : CaR c (.builtin "min") [.int a, .int b] (.int (if b < a then b else a)) := by
  intro o s vs hs y Q E k
  replace y := VRs.consI y
  obtain ⟨_, _, rfl, y1, y⟩ := y
  · replace y := VRs.consI y
    obtain ⟨_, _, rfl, y2, y⟩ := y
    ·
        (first | ((first | replace y := VR.intI y | replace y := VR.strI y); obtain ⟨_, rfl⟩ := y) | ((first | replace y := VR.rawI y | replace y := VRs.nilI y | replace y := VR.boolI y | replace y := VR.noneI y); subst y) | cases y); (first | ((first | replace y1 := VR.intI y1 | replace y1 := VR.strI y1); obtain ⟨_, rfl⟩ := y1) | ((first | replace y1 := VR.rawI y1 | replace y1 := VRs.nilI y1 | replace y1 := VR.boolI y1 | replace y1 := VR.noneI y1); subst y1) | cases y1); (first | ((first | replace y2 := VR.intI y2 | replace y2 := VR.strI y2); obtain ⟨_, rfl⟩ := y2) | ((first | replace y2 := VR.rawI y2 | replace y2 := VRs.nilI y2 | replace y2 := VR.boolI y2 | replace y2 := VR.noneI y2); subst y2) | cases y2)
        rename_i t u
        refine wpAny_mono (wpAny_with_toks (Nat.le_refl s.toks) (call_min_two (Q := fun v s' => s.toks ≤ s'.toks → Q v s') ?_)) (fun _ _ h => h) fun _ _ h => h
        have ht : (s.heap.push { cls := .type "tuple", data := .seq #[.int a t, .int b u] }).IsTuple s.heap.objs.size #[.int a t, .int b u] := ⟨_, Heap.get?_push_size _ rfl, rfl, _, rfl⟩
        refine wpAny_pyIter_tuple ht ?_
        have hI := size_none (s.heap.push { cls := .type "tuple", data := .seq #[.int a t, .int b u] })
        have hne : s.heap.objs.size ≠ (s.heap.push { cls := .type "tuple", data := .seq #[.int a t, .int b u] }).objs.size := get_ne (Heap.get?_push_size _ rfl) hI
        have W := Walks.tuple (prog := c.G.prog) (w := c.G.w) (A := c.A.in1) o.hd _ s.heap.objs.size hne #[.int a t, .int b u]
        refine ⟨_, _, _, 2, _, _, fun i j => decide (i2 a b i < i2 a b j), rfl, W, ⟨⟨_, Heap.get?_push_size _ rfl, rfl, rfl⟩, ⟨_, Heap.get?_push_of_some _ (Heap.get?_push_size _ rfl), rfl, _, rfl⟩⟩, fun b' hb => ?_, by decide, ?_, fun x h' tk hx hk hle => ?_⟩
        · rcases List.mem_cons.mp hb with rfl | hb
          · exact Heap.lt_size (Heap.get?_push_size _ rfl)
          · rw [List.mem_singleton.mp hb]; exact Heap.lt_size (Heap.get?_push_of_some _ (Heap.get?_push_size _ rfl))
        · intro i j vi vj s' Q' E' hi hj hQ
          obtain ⟨_, rfl⟩ := items2 hi
          obtain ⟨_, rfl⟩ := items2 hj
          exact lt_int hQ
        · obtain ⟨w, rfl⟩ := items2 hx
          have hle' : s.toks ≤ tk := hle
          have e : i2 a b (argBest (fun i j => decide (i2 a b i < i2 a b j)) 1) = if b < a then b else a := by
            show i2 a b (if decide (i2 a b 1 < i2 a b 0) then 1 else 0) = _
            show i2 a b (if decide (b < a) then 1 else 0) = _
            by_cases q : b < a
            · simp [q, i2]
            · simp [q, i2]
          show Q (.int (i2 a b (argBest (fun i j => decide (i2 a b i < i2 a b j)) 1)) w) _
          rw [e]
          refine k _ _ (Ext.of (tk := tk) o.g fun b' ob e => hk b' ob (fun q => get_ne (Heap.get?_push_of_some _ e) hI (List.mem_singleton.mp q)) (Heap.get?_push_of_some _ (Heap.get?_push_of_some _ e))) .int
theorem pyIter_str (o : c.Ok) {s1 : Shared} (hs1 : c.Φ s1) {x : Str} {t : Tok} {Q : Value → Shared → Prop} {E : Value → Shared → Prop} (hn : x.cps.size ≤ 1000000) (k : ∀ I fp wr Pv St s', Iter1 c s1 s' I fp wr (signsA x) Pv St → Q (.ref I) s') : wpAny c.M c.A (pyIter (.str x t)) Q E s1 := by
  have hI := size_none s1.heap
  have go : ∀ (T : String), (∀ A' : Around, A'.handled = none → Walks c.G.prog c.G.w A' s1.heap.objs.size [s1.heap.objs.size] [s1.heap.objs.size] x.cps.size (SignAt x) (fun i h => h.IsStrIter s1.heap.objs.size T x t i)) →
      Q (.ref s1.heap.objs.size) { s1 with heap := s1.heap.push { cls := .type T, data := .fields #[.str x t, .int 0 0] } } := fun T hW => by
    have x2 := ext_push o (s := s1) (ob := { cls := .type T, data := .fields #[.str x t, .int 0 0] })
    refine k s1.heap.objs.size [s1.heap.objs.size] [s1.heap.objs.size] (SignAt x) (fun i h => h.IsStrIter s1.heap.objs.size T x t i) _ (Iter1.mk x2 (tabs_push o (.refl s1) hI) ?_ ⟨_, Heap.get?_push_size _ rfl, rfl, rfl⟩ ?_ ?_ ?_ ?_ ?_)
    · have W := hW c.A o.hd
      have e : (signsA x).length = x.cps.size := by simp [signsA]
      rw [e]; exact W
    · intro i h st b hb
      rw [List.mem_singleton.mp hb]
      obtain ⟨o', e', _⟩ := st
      exact ⟨o', e'⟩
    · intro b hb
      rw [List.mem_singleton.mp hb]
      exact hI
    · intro b hb
      rw [List.mem_singleton.mp hb]
      exact ⟨o.fresh s1 _ hs1 hI, _, Heap.get?_push_size _ rfl⟩
    · rintro i v r hx ⟨n, u, hc, rfl⟩
      have : r = .str ⟨#[n]⟩ := by
        rw [signsA, List.getElem?_map] at hx
        have hc' : x.cps.toList[i]? = some n := by simpa using hc
        rw [hc'] at hx
        exact (Option.some.inj hx).symm
      subst this
      exact .str
    · simpa [signsA] using hn
  cases ha : x.cps.all (· < 128)
  · exact wpAny_pyIter_wide ha (go _ fun A' hA => Walks.strWide hA _ x t)
  · exact wpAny_pyIter_ascii ha (go _ fun A' hA => Walks.strAscii hA _ x t)
theorem Iter1.g {s s' : Shared} {I : Addr} {fp wr : List Addr} {xs : List AV} {Pv : Nat → Value → Prop} {St : Nat → Heap → Prop} (o : c.Ok) (it : Iter1 c s s' I fp wr xs Pv St) {x : Str} {px : Pos} (f : Nat → AV) (hf : ∀ i, i < xs.length → xs[i]? = some (f i)) :
    IterG c s s' (.Name x px) I fp wr xs.length St (fun i => [(x, f i)]) (fun env own P' => Kd env own x) := ⟨it.ext, it.tabs, it.st, it.new, it.fpP, fun env own P' F hx h1 h2 h3 => by
  have hw : ∀ b ∈ wr, b ∈ fp := it.W.sub
  refine ⟨_, fun i v hi hv => ?_, Turns.name F it.W hx o.hd f it.live (fun b hb pb => (h1 b pb).2 hb) (fun b hb => h3 b (hw b hb)) h3⟩
  exact (it.d i v _ (hf i hi) hv).lt fun a ob pa e => h2 a ob pa e⟩
theorem comp_any2 {elt target iter : Expr} {ifs : List Expr} {scope : Scope} {pos : Pos} {n : Nat} {bs : Nat → List (Str × AV)} {Tg : Env → List (Str × Addr) → (Addr → Prop) → Prop} {t : Nat → Bool} {f : Nat → AV} {R : Shared → Prop} {s : Shared}
    (hi : ∀ (Q' : Value → Shared → Prop) E', (∀ s1, c.Φ s1 → R s1 → ∀ I fp wr St s2, IterG c s1 s2 target I fp wr n St bs Tg → Q' (.ref I) s2) → wpAny c.M c.A (eval iter c.env) (fun xv s₁ => wpAny c.M c.A (pyIter xv) Q' E' s₁) E' s)
    (k : CompOk c elt target ifs scope n bs Tg t f) (hs : ∀ x, foldedSetIterable iter c.env x = pure x) (o : c.Ok) {Q : Value → Shared → Prop} {E : Value → Shared → Prop}
    (kk : ∀ s1, c.Φ s1 → R s1 → ∀ D s' vs, s1.heap.get? D = none → Ext c.G s1 s' → s'.heap.IsList D vs.toArray → VRs s'.heap s'.toks c.P (((List.range n).filter t).map f) vs → Q (.ref D) s') :
    wpAny c.M c.A (eval (.ListComp elt [⟨target, iter, ifs, 0⟩] scope pos) c.env) Q E s := by
  rw [eval_ListComp]
  refine wpAny_comprehension_free (use := none) rfl hs (closure_eq (k.hfree o)) k.hk k.names ?_
  refine hi _ _ fun s1 h0 r1 I fp wr St s2 it => ?_
  refine comp_core (RR := fun acc C => compPost c.M c.A E none Q acc C) o k.hk k.hnd k.htg (k.hb o) h0 it k.hn ?_
  rintro D C s' vs hD hC hDC x hl hv ⟨m, hm⟩ hDo htab
  refine ⟨m, hm, fun h' hs' => ?_⟩
  have x2 : Ext c.G s1 { s' with heap := h' } := let_go o x hC hs' (o.pt C (o.fresh s1 C h0 hC)) fun P fr tt => o.g.tmono _ _ _ (htab P fr tt) fun a _ h _ => ⟨h.1, h.2.2⟩
  exact kk s1 h0 r1 D _ vs hD x2 (hl.extBut hs'.extBut hDC) (hv.mono (fun b ob pb e => hs'.extBut b ob pb.2.2 e) fun b p => p.1)
end
section
variable {fc : FC} {s0 : Shared} {σ : List (Str × AV)} {β β' : List Item} {Post : Flow → Shared → Prop} {rest : List Stmt}
theorem EvX.comp (W : fc.Ok) {elt iter : Expr} {x : Str} {px : Pos} {ifs : List Expr} {scope : Scope} {pos : Pos} {text : Str} {n : Nat} {t : Nat → Bool} {f g : Nat → AV} (h : EvX fc s0 σ β iter (.str text) β') (hn : text.cps.size = n) (hz : n ≤ 1000000) (hg : ∀ i, i < n → (signsA text)[i]? = some (g i))
    (k : CompOk (cs fc s0 σ β') elt (.Name x px) ifs scope n (fun i => [(x, g i)]) (fun env own P' => Kd env own x) t f) (hs : ∀ x, foldedSetIterable iter fc.env x = pure x := by intro _; rfl) :
    EvX fc s0 σ β (.ListComp elt [⟨.Name x px, iter, ifs, 0⟩] scope pos) (.list (((List.range n).filter t).map f)) β' := fun s Q E hs0 kk => by
  have hl : (signsA text).length = n := by simp [signsA, hn]
  refine comp_any2 (c := cs fc s0 σ β') (R := fun _ => True) (fun Q' E' q => ?_) k hs (cs_ok W) fun s1 h1 _ D s' vs hD x1 hl hv => ?_
  · refine h s _ _ hs0 fun v s1 hs1 y1 => ?_
    (first | ((first | replace y1 := VR.intI y1 | replace y1 := VR.strI y1); obtain ⟨_, rfl⟩ := y1) | ((first | replace y1 := VR.rawI y1 | replace y1 := VRs.nilI y1 | replace y1 := VR.boolI y1 | replace y1 := VR.noneI y1); subst y1) | cases y1)
    refine pyIter_str (c := cs fc s0 σ β') (cs_ok W) hs1 (by rw [hn]; exact hz) fun I fp wr Pv St s2 it => ?_
    have := it.g (cs_ok W) (x := x) (px := px) g (fun i hi => hg i (by rw [← hl]; exact hi))
    rw [hl] at this
    exact q s1 hs1 trivial I fp wr St s2 this
  · exact kk _ _ (FS.ext W h1 x1) (.list (FS.fresh W h1 hD) hl hv)
theorem Tri.ifX (W : fc.Ok) {l r : Expr} {p pos : Pos} {op : CmpOp} {a b : List Stmt} {r1 r2 : AV} {x : Bool} (h1 : EvX fc s0 σ β l r1 β') (h2 : EvE (cs fc s0 σ β') r r2) (hop : CmR (cs fc s0 σ β') op r1 r2 x) (k1 : x = true → Tri fc (FS fc s0 σ β') a (Sq fc rest Post)) (k2 : x = false → Tri fc (FS fc s0 σ β') b (Sq fc rest Post)) (hm : behindInMarks op r = false := by with_unfolding_all rfl) :
    Tri fc (FS fc s0 σ β) (.If (.Compare l [op] [r] p) a b pos :: rest) Post := Tri.st fun E s hs => by
  rw [exec_If]
  refine wpAny_bind (wpAny_standAt (wpAny_bind ?_))
  refine wpAny_isTrue_Compare1 ?_ hm
  refine h1 s _ _ hs fun v1 s1 hs1 y1 => ?_
  refine h2 (cs_ok W) s1 hs1 _ _ fun v2 s2 x2 y2 => ?_
  have hs2 := FS.ext W hs1 x2
  refine hop (cs_ok W) s2 v1 v2 hs2 (y1.ext (cs_ok W) x2) y2 _ _ fun s3 x3 => wpAny_truthy_bool ?_
  have hs3 := FS.ext W hs2 x3
  cases x with
  | true => exact k1 rfl E s3 hs3
  | false => exact k2 rfl E s3 hs3
end
theorem LexP.cd_off {P : Params} {a : LexA} {n : Int} {cs : List Nat} {Q : Addr → Prop} {h : Heap} {τ : Nat} (x : LexP P a n cs Q h τ) : a.cd ∉ a.ad := fun q => by
  obtain ⟨k1, k2, k3, k4, t, w, d2⟩ := x.iD
  obtain ⟨m, d3⟩ := x.iP
  obtain ⟨fd, sl, d4⟩ := x.iF
  obtain ⟨k5, d5⟩ := x.iE
  obtain ⟨pm, ctv, o, vs, t', d6, q', e1, e2, e3⟩ := x.iR
  obtain ⟨oc, d7, d8⟩ := x.iC
  obtain ⟨ws, m', d9, d10⟩ := x.iS
  have no : ∀ {b : Addr} {ob : Obj}, h.get? b = some ob → (∀ vs, ob.data ≠ .fields vs) → a.cd ≠ b := fun {b ob} e nf q => by
    rw [q, e] at e1; cases e1; exact nf _ e2
  simp only [LexA.ad, List.mem_cons, List.not_mem_nil, or_false] at q
  rcases q with q | q | q | q | q | q | q | q
  · exact no x.iL (fun vs q => by cases q) q
  · exact no d2 (fun vs q => by cases q) q
  · exact no d4 (fun vs q => by cases q) q
  · exact no d5 (fun vs q => by cases q) q
  · exact no d6 (fun vs q => by cases q) q
  · exact no d7 (fun vs q => by rw [d8] at q; cases q) q
  · exact no d9 (fun vs q => by cases q) q
  · exact no d3 (fun vs q => by cases q) q
section
variable {fc : FC} {s0 s : Shared} {σ : List (Str × AV)} {β β' : List Item} {Post : Flow → Shared → Prop} {rest : List Stmt}
theorem Vars.froze {env : Env} {own : List (Str × Addr)} {P : Addr → Prop} {h : Heap} {τ : Nat} (V : Vars env own σ P h τ) {x : Str} {a : Addr} {r : AV} (hx : σ.lookup x = some (.raw (.ref a))) (hv : VR h τ P r (.ref a)) : Vars env own ((x, r) :: σ) P h τ := by
  obtain ⟨⟨m, hn, hm⟩, hc⟩ := V
  refine ⟨⟨m, hn, fun y r' e k => ?_⟩, fun y b e => ?_⟩
  · by_cases q : y = x
    · subst q
      have e' : r = r' := by simpa using e
      obtain ⟨v, h1, h2⟩ := hm y _ hx k
      cases h2
      exact ⟨_, h1, e' ▸ hv⟩
    · refine hm y r' ?_ k
      rwa [List.lookup_cons, show (y == x) = false from beq_eq_false_iff_ne.mpr q] at e
  · obtain ⟨ov, h1, h2⟩ := hc y b e
    refine ⟨ov, h1, fun r' e' => ?_⟩
    by_cases q : y = x
    · subst q
      have e2 : r = r' := by simpa using e'
      obtain ⟨v, h3, h4⟩ := h2 _ hx
      cases h4
      exact ⟨_, h3, e2 ▸ hv⟩
    · refine h2 r' ?_
      rwa [List.lookup_cons, show (y == x) = false from beq_eq_false_iff_ne.mpr q] at e'
theorem FS.freeze (W : fc.Ok) {a : Addr} {xs : List AV} (h : FS fc s0 σ (Item.list a xs :: β) s) {x : Str} (hx : σ.lookup x = some (.raw (.ref a))) : FS fc s0 ((x, .list xs) :: σ) β s := by
  obtain ⟨vs, hl, hv⟩ := h.box _ (.head _)
  have h1 := FS.drop W h
  have pa : PF fc β a := ⟨FS.mut W h (mem_MUs_cons.mpr (.inr (.head _))), fun q => by
    rcases mem_MUs.mp q with q | ⟨i, hi, q⟩
    · exact h.offF _ (.head _) a (.head _) q
    · exact (List.pairwise_cons.mp h.sep).1 i hi a (.head _) q⟩
  exact ⟨h1.kp, h1.tabs, h1.live, h1.new, h1.gl0, h1.vars.froze hx (.list pa hl (hv.mono (fun _ _ _ e => e) fun b p => (PF_cons.mp p).1)), h1.box, h1.sep, h1.offF⟩
theorem FS.freezeP (W : fc.Ok) {a : Addr} {xs : List AV} (h : FS fc s0 σ (Item.plist a xs :: β) s) {x : Str} (hx : σ.lookup x = some (.raw (.ref a))) : FS fc s0 ((x, .list xs) :: σ) β s := by
  obtain ⟨vs, n, hl, hv⟩ := h.box _ (.head _)
  have h1 := FS.drop W h
  have pa : PF fc β a := ⟨FS.mut W h (mem_MUs_cons.mpr (.inr (.head _))), fun q => by
    rcases mem_MUs.mp q with q | ⟨i, hi, q⟩
    · exact h.offF _ (.head _) a (.head _) q
    · exact (List.pairwise_cons.mp h.sep).1 i hi a (.head _) q⟩
  exact ⟨h1.kp, h1.tabs, h1.live, h1.new, h1.gl0, h1.vars.froze hx (.list pa hl.isList (hv.mono (fun _ _ _ e => e) fun b p => (PF_cons.mp p).1)), h1.box, h1.sep, h1.offF⟩
theorem Tri.asgSw (W : fc.Ok) {x y : Str} {ts : List Expr} {k1 : Nat} {tp pos : Pos} {e : Expr} {r1 r2 : AV} (h : EvE (cx fc s0 σ β) e (.tup [r1, r2])) (a1 : r1.atom = true) (a2 : r2.atom = true) (hx : Kd fc.env fc.own x) (hy : Kd fc.env fc.own y) (k : Tri fc (FS fc s0 ((x, r1) :: (y, r2) :: σ) β) rest Post)
    (hs : swapsWithSole [.Tuple ts k1 tp] e pos.line fc.env = pure false := by rfl) (hw : swappedStores [.Tuple ts k1 tp] e fc.env = pure (some [x, y]) := by rfl) : Tri fc (FS fc s0 σ β) (.Assign [.Tuple ts k1 tp] e pos :: rest) Post := Tri.st fun E s hs' => by
  refine Assign_Tuple_swapped (names := [x, y]) ?_ hs hw
  refine h (cx_ok W) s hs' _ _ fun v s1 x1 z => ?_
  have hs1 := FS.ext W hs' x1
  replace z := VR.tupI z
  obtain ⟨t, vs, rfl, pt, ht, hv⟩ := z
  ·
    replace hv := VRs.consI hv
    obtain ⟨v1, _, rfl, z1, hv⟩ := hv
    ·
      replace hv := VRs.consI hv
      obtain ⟨v2, _, rfl, z2, hv⟩ := hv
      ·
        (first | ((first | replace hv := VR.intI hv | replace hv := VR.strI hv); obtain ⟨_, rfl⟩ := hv) | ((first | replace hv := VR.rawI hv | replace hv := VRs.nilI hv | replace hv := VR.boolI hv | replace hv := VR.noneI hv); subst hv) | cases hv)
        show wpAny _ _ (unpackItems (.ref t) ([v1, v2].toArray).size none) _ _ _
        refine wpAny_unpackItems_tuple (items := [v1, v2].toArray) W.rm.1 ht fun h' xb => ?_
        have hs2 := FS.ext W hs1 (Ext.of (tk := s1.toks) (le := Nat.le_refl _) W.g fun b ob e => xb b ob (Nat.ne_of_lt (Heap.lt_size e)) e)
        show wpAny _ _ (assignInOrder [bindName fc.env y, bindName fc.env x] [v2, v1]) _ _ _
        refine assignInOrder_cons (wpAny_bindName (wpAny_mono (wpAny_with_toks (Nat.le_refl s1.toks) (hs2.store W hy (z2.atom a2) (Q := fun _ s' => s1.toks ≤ s'.toks → wpAny _ _ (assignInOrder [bindName fc.env x] [v1]) _ _ s') fun s3 hs3 hle => ?_)) (fun _ _ h => h) fun _ _ h => h))
        exact assignInOrder_cons (wpAny_bindName (hs3.store W hx (z1.atom a1 hle) fun s4 hs4 => assignInOrder_nil fun E' => k E' s4 hs4))
theorem f_gt (P : Params) {k1 k2 k3 k4 n t aF w aP} : findObj (fr.heap_1 P) 123 (some (lexD P k1 k2 k3 k4 n t aF w aP)) "get_token" = some (.bind (.builtin "function.__get__") (.ref 113)) := by rfl
theorem EvX.gt (g : GN fc.G) (W : fc.Ok) (rm : Rm fc.A 5) {l r : List Item} {a : LexA} (nd : a.ad.Nodup) {n : Int} {cs' : List Nat} (hz : cs'.length ≤ 400000) {o : Expr} {p1 p2 : Pos} (ho : EvE (cs fc s0 σ (l ++ Item.lex fc.G.w.params a n cs' :: r)) o (.raw (.ref a.aL)))
    (hb1 : attributeBase o "get_token" fc.env (eval o fc.env) = eval o fc.env := by rfl) (hline : (p1.endLine == p2.line) = true := by rfl) :
    EvX fc s0 σ (l ++ Item.lex fc.G.w.params a n cs' :: r) (.Call (.Attribute o "get_token" p1) [] [] p2) (.str (tokS (tokn n cs').1)) (l ++ Item.lex fc.G.w.params a (tokn n cs').2.1 (tokn n cs').2.2 :: r) := fun s Q E hs kk => by
  refine meth_evalG ?_ hb1 (by rfl) hline
  refine ho (cs_ok W) s hs _ _ fun v s1 x1 y1 => ?_
  (first | ((first | replace y1 := VR.intI y1 | replace y1 := VR.strI y1); obtain ⟨_, rfl⟩ := y1) | ((first | replace y1 := VR.rawI y1 | replace y1 := VRs.nilI y1 | replace y1 := VR.boolI y1 | replace y1 := VR.noneI y1); subst y1) | cases y1)
  have hs1 := FS.ext W hs x1
  intro pl
  obtain ⟨k1, k2, k3, k4, t, w, I⟩ := lex_inst (hs1.box (Item.lex fc.G.w.params a n cs') (List.mem_append_right _ (.head _)))
  refine method_fn (f := 113) (FS.kin g.toGK rfl W hs1) I (ga_lex _) (hk_lex _) (by rfl) (by rfl) (by rfl) ?_
  have ok := FS.lexOk W hs1 nd
  have lq := FS.lexQ W hs1
  have gl := (hs1.glob W).wk W.g (P' := NT) fun a p => p.1
  have f113 := gl.keep _ _ (g.get (by rfl : (fr.heap_1 fc.G.w.params).lookup 113 = some (objAt fc.G.w.params 113)))
  refine Calls.callWith_function (fd := fdAt fc.G.w.params 113) (evalArgs_plainL (by rfl) (wpAny_items_nil ⟨⟨f113, rfl⟩, ?_⟩))
  refine wpAny_call (fn_gt g ok rm gl lq.1 hz fun s' t' cx lq' => ?_)
  exact kk _ _ (FS.backL W hs1 cx lq') .str
theorem Tri.lexer (g : GN fc.G) (W : fc.Ok) (rm : Rm fc.A 5) {x f : Str} {px pf pc pos : Pos} {e : Expr} {text : Str} (hf : EvE (cx fc s0 σ β) (.Name f pf) (.raw (.ref 134))) (h : EvE (cx fc s0 σ β) e (.str text)) (hz : text.cps.size ≤ 400000) (hx : Kd fc.env fc.own x)
    (k : ∀ a : LexA, a.ad.Nodup → Tri fc (FS fc s0 ((x, .raw (.ref a.aL)) :: σ) (Item.lex fc.G.w.params a 1 (textCs text) :: β)) rest Post) (hst : starEach [e] fc.env = (false, eval e fc.env) :: starEach [] fc.env := by rfl)
    (hsw : swapsWith (.Call (.Name f pf) [e] [] pc) (some (.Name x px)) pos.line fc.env = pure false := by rfl) :
    Tri fc (FS fc s0 σ β) (.Assign [.Name x px] (.Call (.Name f pf) [e] [] pc) pos :: rest) Post := Tri.asg hsw fun E s hs => by
  rw [arm_eval_Call_Name']
  refine wpAny_bind (hf (cx_ok W) s hs _ _ fun v s1 x1 y1 => ?_)
  (first | ((first | replace y1 := VR.intI y1 | replace y1 := VR.strI y1); obtain ⟨_, rfl⟩ := y1) | ((first | replace y1 := VR.rawI y1 | replace y1 := VRs.nilI y1 | replace y1 := VR.boolI y1 | replace y1 := VR.noneI y1); subst y1) | cases y1)
  have hs1 := FS.ext W hs x1
  refine callWith_K (K := fr.heap_1 fc.G.w.params) (FS.kin g.toGK rfl W hs1) (by rfl) (wpAny_items_cons ?_ hst) (he := hst)
  refine h (cx_ok W) s1 hs1 _ _ fun v2 s2 x2 y2 => ?_
  (first | ((first | replace y2 := VR.intI y2 | replace y2 := VR.strI y2); obtain ⟨_, rfl⟩ := y2) | ((first | replace y2 := VR.rawI y2 | replace y2 := VRs.nilI y2 | replace y2 := VR.boolI y2 | replace y2 := VR.noneI y2); subst y2) | cases y2)
  have hs2 := FS.ext W hs1 x2
  refine wpAny_items_nil ⟨FS.kin g.toGK rfl W hs2, ?_⟩
  have gl := (hs2.glob W).wk W.g (P' := NT) fun a p => p.1
  refine fn_lexer g rm gl hz fun a s' N => ?_
  have hs3 : FS fc s0 σ (Item.lex fc.G.w.params a 1 (textCs text) :: β) s' := by
    refine FS.add W hs2 (Item.lex fc.G.w.params a 1 (textCs text)) N.new N.ext (N.lex.reQ ?_) fun P f t => ?_
    · refine PF_cons.mpr ⟨?_, ?_⟩
      · have := N.cd (PF fc β) (fun b e => FS.fresh W hs2 e) (hs2.glob W).tabs
        exact this
      · exact N.lex.cd_off
    · exact lex_to W.g N.lex _ ((FS.ext W hs2 N.ext).tabs P f t)
  exact hs3.store W hx .raw fun s4 h4 E' => k a N.nd E' s4 h4
end
theorem compTurn_two (elt t1 i1 t2 i2 : Expr) (scope : Scope) (pos : Pos) (it acc : Value) (env : Env) :
    compTurn (.ListComp elt [⟨t1, i1, [], 0⟩, ⟨t2, i2, [], 0⟩] scope pos) 0 it acc env = (do
      standAt i1.pos
      match ← pyNext it with
      | none => pure (.done .next)
      | some v =>
        letOwnedTupleGo t1 it v
        assign t1 env v
        let x ← eval i2 env
        standAt i2.pos
        let x ← foldedSetIterable i2 env x
        let _ ← runOwn (.compStart (.ListComp elt [⟨t1, i1, [], 0⟩, ⟨t2, i2, [], 0⟩] scope pos) 1 (← holding [x] (pyIter x)) acc env) env
        again (.compLoop (.ListComp elt [⟨t1, i1, [], 0⟩, ⟨t2, i2, [], 0⟩] scope pos) 0 it acc env)) := by rfl
theorem compTurn_inn (elt t1 i1 t2 i2 : Expr) (scope : Scope) (pos : Pos) (it acc : Value) (env : Env) :
    compTurn (.ListComp elt [⟨t1, i1, [], 0⟩, ⟨t2, i2, [], 0⟩] scope pos) 1 it acc env = (do
      standAt i2.pos
      match ← pyNext it with
      | none => pure (.done .next)
      | some v =>
        letOwnedTupleGo t2 it v
        assign t2 env v
        (do let _ ← call (.builtin "list.append") [acc, ← eval elt env])
        again (.compLoop (.ListComp elt [⟨t1, i1, [], 0⟩, ⟨t2, i2, [], 0⟩] scope pos) 1 it acc env)) := by rfl
section
variable {prog : Program} {w : World} {A : Around} {R : Result → Shared → Prop} {elt t1 i1 t2 i2 : Expr} {scope : Scope} {pos : Pos} {it acc : Value} {env : Env} {s : Shared}
theorem comp_loop2 (I : Nat → Shared → Prop) (hs2 : ∀ x, foldedSetIterable i2 env x = pure x)
    (turn : ∀ n s, I n s → ∀ EE, wpAny (model prog w) A (pyNext it) (fun r s₁ => match r with
      | none => R (.ok .next) s₁
      | some v => wpAny (model prog w) A (letOwnedTupleGo t1 it v) (fun _ s₁' => wpAny (model prog w) A (assign t1 env v) (fun _ s₂ =>
          wpAny (model prog w) A (eval i2 env) (fun x s₃ => wpAny (model prog w) A (pyIter x) (fun iv s₄ =>
            codeAny (model prog w) A (.compStart (.ListComp elt [⟨t1, i1, [], 0⟩, ⟨t2, i2, [], 0⟩] scope pos) 1 iv acc env) (fun r s5 => match r with | .ok f => ∃ m, m < n ∧ I m s5 | .error e => cameBackBy (model prog w) A env EE e s5) s₄) EE s₃) EE s₂) EE s₁') EE s₁) EE s)
    (n : Nat) (h : I n s) : codeAny (model prog w) A (.compLoop (.ListComp elt [⟨t1, i1, [], 0⟩, ⟨t2, i2, [], 0⟩] scope pos) 0 it acc env) R s := by
  refine codeAny_loop rfl I (fun n s hI => ?_) n h
  show wpAny _ A ((compTurn (.ListComp elt [⟨t1, i1, [], 0⟩, ⟨t2, i2, [], 0⟩] scope pos) 0 it acc env).onRaise (fun x => do noteFrame x env; theTreesLotGoes x)) _ _ s
  refine wpAny_noted ?_
  rw [compTurn_two]
  refine wpAny_bind (wpAny_standAt (wpAny_bind (wpAny_mono (turn n s hI _) (fun r s₁ h₁ => ?_) fun _ _ h' => h')))
  cases r with
  | none => exact wpAny_pure h₁
  | some v =>
    refine wpAny_bind (wpAny_mono h₁ (fun _ s₁' h₁' => ?_) fun _ _ h' => h')
    refine wpAny_bind (wpAny_mono h₁' (fun _ s₂ h₂ => ?_) fun _ _ h' => h')
    refine wpAny_bind (wpAny_mono h₂ (fun x s₃ h₃ => ?_) fun _ _ h' => h')
    refine wpAny_bind (wpAny_standAt (wpAny_bind (wpAny_of_eq (hs2 x) ?_)))
    refine wpAny_bind (wpAny_holding (wpAny_mono h₃ (fun iv s₄ h₄ => ?_) fun _ _ h' => h'))
    refine wpAny_bind (wpAny_runOwn (codeAny_mono h₄ fun r s5 h5 => ?_))
    cases r with
    | ok f => exact wpAny_pure ⟨rfl, h5⟩
    | error e => exact h5
theorem comp_loopI (I : Nat → Shared → Prop)
    (turn : ∀ n s, I n s → ∀ EE, wpAny (model prog w) A (pyNext it) (fun r s₁ => match r with
      | none => R (.ok .next) s₁
      | some v => wpAny (model prog w) A (letOwnedTupleGo t2 it v) (fun _ s₁' => wpAny (model prog w) A (assign t2 env v) (fun _ s₂ =>
          wpAny (model prog w) A (eval elt env) (fun x s₃ => wpAny (model prog w) A (call (.builtin "list.append") [acc, x]) (fun _ s₄ => ∃ m, m < n ∧ I m s₄) EE s₃) EE s₂) EE s₁') EE s₁) EE s)
    (n : Nat) (h : I n s) : codeAny (model prog w) A (.compLoop (.ListComp elt [⟨t1, i1, [], 0⟩, ⟨t2, i2, [], 0⟩] scope pos) 1 it acc env) R s := by
  refine codeAny_loop rfl I (fun n s hI => ?_) n h
  show wpAny _ A ((compTurn (.ListComp elt [⟨t1, i1, [], 0⟩, ⟨t2, i2, [], 0⟩] scope pos) 1 it acc env).onRaise (fun x => do noteFrame x env; theTreesLotGoes x)) _ _ s
  refine wpAny_noted ?_
  rw [compTurn_inn]
  refine wpAny_bind (wpAny_standAt (wpAny_bind (wpAny_mono (turn n s hI _) (fun r s₁ h₁ => ?_) fun _ _ h' => h')))
  cases r with
  | none => exact wpAny_pure h₁
  | some v =>
    refine wpAny_bind (wpAny_mono h₁ (fun _ s₁' h₁' => ?_) fun _ _ h' => h')
    refine wpAny_bind (wpAny_mono h₁' (fun _ s₂ h₂ => ?_) fun _ _ h' => h')
    exact wpAny_bind (wpAny_bind (wpAny_mono h₂ (fun x s₃ h₃ => wpAny_bind (wpAny_mono h₃ (fun _ s₄ h₄ => wpAny_pure (wpAny_pure ⟨rfl, h₄⟩)) fun _ _ h' => h')) fun _ _ h' => h'))
theorem compStart_two
    (h0 : codeAny (model prog w) A (.compLoop (.ListComp elt [⟨t1, i1, [], 0⟩, ⟨t2, i2, [], 0⟩] scope pos) 1 it acc env) R s)
    (h : ∀ EE, wpAny (model prog w) A (pyIter it) (fun it' s' => codeAny (model prog w) A (.compLoop (.ListComp elt [⟨t1, i1, [], 0⟩, ⟨t2, i2, [], 0⟩] scope pos) 1 it' acc env) R s') EE s) :
    codeAny (model prog w) A (.compStart (.ListComp elt [⟨t1, i1, [], 0⟩, ⟨t2, i2, [], 0⟩] scope pos) 1 it acc env) R s := by
  refine codeAny_of_tree ?_
  show wpAny _ _ ((compStart (.ListComp elt [⟨t1, i1, [], 0⟩, ⟨t2, i2, [], 0⟩] scope pos) 1 it acc env).onRaise (fun x => do noteFrame x env; standAt theWindowsPlace)) _ _ s
  refine wpAny_notedAt ?_
  unfold compStart
  show wpAny _ _ (ask >>= _) _ _ s
  refine wpAny_bind (wpAny_askSetting (wpAny_ite ?_))
  split
  · first
      | exact wpAny_bind (wpAny_pure (wpAny_pure (And.intro rfl h0)))
      | exact wpAny_pure (And.intro rfl h0)
  · first
      | exact wpAny_bind (wpAny_rule (wpAny_bind (wpAny_standAt (wpAny_bind (wpAny_mono (h _) (fun it' s' h' => wpAny_pure (And.intro rfl h')) fun _ _ x => x)))))
      | (refine wpAny_bind (wpAny_rule ?_); show wpAny _ _ (standAt i2.pos >>= _) _ _ s; exact wpAny_bind (wpAny_standAt (wpAny_bind (wpAny_mono (h _) (fun it' s' h' => wpAny_pure (And.intro rfl h')) fun _ _ x => x))))
end
theorem comp_core2 {c : Cx} (o : c.Ok) {elt t1 i1 t2 i2 : Expr} {scope : Scope} {pos : Pos} {n n2 : Nat} {bs : Nat → List (Str × AV)} {bs2 : Nat → Nat → List (Str × AV)} {Tg1 Tg2 : Env → List (Str × Addr) → (Addr → Prop) → Prop} {f : Nat → Nat → AV} {pre : Nat → List AV}
    (hpre0 : pre 0 = []) (hpre : ∀ i, pre (i + 1) = pre i ++ (List.range n2).map (f i)) (hpl : ∀ i, i ≤ n → (pre i).length ≤ 10000) (hn2 : n2 ≤ 10000)
    (hk : scope.kind = .function) (hnd : (scope.names.map Prod.fst).Nodup) (hs2 : ∀ C x, foldedSetIterable i2 (innerEnv c.env scope C) x = pure x)
    (htg1 : ∀ C P', FOk (innerEnv c.env scope C) (ownOf scope C) P' → Tg1 (innerEnv c.env scope C) (ownOf scope C) P') (htg2 : ∀ C P', FOk (innerEnv c.env scope C) (ownOf scope C) P' → Tg2 (innerEnv c.env scope C) (ownOf scope C) P')
    (hdis : ∀ i j x r, (bs i).lookup x = some r → (bs2 i j).lookup x = none)
    (hi2 : ∀ C MU i, i < n → (∀ a ∈ (ownOf scope C).map (·.2), a ∉ Tb) → EvG (c.inner scope C MU (bs i)) i2 t2 n2 (bs2 i) Tg2)
    (hb : ∀ C MU i j, i < n → j < n2 → (∀ a ∈ (ownOf scope C).map (·.2), a ∉ Tb) → EvE (c.inner scope C MU (bs2 i j ++ bs i)) elt (f i j))
    {s0 s2 : Shared} {I : Addr} {fp wr : List Addr} {St : Nat → Heap → Prop} (h0 : c.Φ s0) (it : IterG c s0 s2 t1 I fp wr n St bs Tg1) (hn : n ≤ 1000000) {RR : Value → Addr → Result → Shared → Prop} {E : Value → Shared → Prop}
    (hR : ∀ D C s' vs, s0.heap.get? D = none → s0.heap.get? C = none → D ≠ C → Ext c.G s0 s' → s'.heap.IsList D vs.toArray → VRs s'.heap s'.toks (fun a => c.P a ∧ a ≠ D ∧ a ≠ C) (pre n) vs → (∃ m, s'.heap.Ns C m) → (∃ ob, s'.heap.get? D = some ob) →
      (∀ P : Addr → Prop, (∀ a, s0.heap.get? a = none → P a) → c.G.TO P s0.heap → c.G.TO (fun a => P a ∧ a ≠ D ∧ a ≠ C) s'.heap) → RR (.ref D) C (.ok .next) s') :
    wpAny c.M c.A (newList []) (fun acc s₃ => wpAny c.M c.A (newFunctionEnv scope c.env.globals (clOf c.env scope.names []) [] c.env.qual none .none (some c.env)) (fun cenv s₄ =>
      codeAny c.M c.A (.compStart (.ListComp elt [⟨t1, i1, [], 0⟩, ⟨t2, i2, [], 0⟩] scope pos) 0 (.ref I) acc { cenv with scope := relabel scope c.env }) (RR acc cenv.locals) s₄) E s₃) E s2 := by
  refine wpAny_newObj_type (newEnv_cells ?_)
  generalize hH2 : s2.heap.push { cls := .type "list", dict := none, data := .seq ([] : List Value).toArray } = H2
  generalize hCC : H2.objs.size = C
  have hC : C = s2.heap.objs.size + 1 := by rw [← hCC, ← hH2, Heap.size_push]
  generalize hDD : s2.heap.objs.size = D at *
  show codeAny c.M c.A (.compStart (.ListComp elt [⟨t1, i1, [], 0⟩, ⟨t2, i2, [], 0⟩] scope pos) 0 (.ref I) (.ref D) { scope := relabel scope c.env, locals := C, globals := c.env.globals, cells := cellsFrom (C + 1) scope.names (clOf c.env scope.names []), qual := c.env.qual, func := none, code := c.env.code, frame := c.env.frame, builtins := c.env.builtins }) (RR (.ref D) C)
    { s2 with heap := pushCells (H2.push { cls := .type "dict", data := .dict #[] }) scope.names }
  rw [cellsFrom_acc scope.names (C + 1) (clOf c.env scope.names [])]
  show codeAny c.M c.A (.compStart _ 0 (.ref I) (.ref D) (innerEnv c.env scope C)) (RR (.ref D) C) _
  generalize hH3 : pushCells (H2.push { cls := .type "dict", data := .dict #[] }) scope.names = H3
  have hsz3 : (H2.push { cls := .type "dict", data := .dict #[] }).objs.size = C + 1 := by rw [Heap.size_push, hCC]
  have ok := cellsFrom_ok scope.names (H2.push { cls := .type "dict", data := .dict #[] }) (C + 1) [] ⟨fun _ _ hm => (nomatch hm), List.Pairwise.nil⟩ (by rw [hsz3]; exact Nat.le_refl _)
  rw [hsz3, hH3] at ok
  have up2 : ∀ a ob, H2.get? a = some ob → H3.get? a = some ob := fun a ob e => by rw [← hH3]; exact pushCells_keeps _ _ _ _ (Heap.get?_push_of_some _ e)
  have up : ∀ a ob, s2.heap.get? a = some ob → H3.get? a = some ob := fun a ob e => up2 a ob (by rw [← hH2]; exact Heap.get?_push_of_some _ e)
  have eD : ∃ ob, H3.get? D = some ob := ⟨_, up2 D _ (by rw [← hH2, ← hDD]; exact Heap.get?_push_size _ rfl)⟩
  have lD : H3.IsList D ([] : List Value).toArray := by
    refine ⟨_, up2 D _ (by rw [← hH2, ← hDD]; exact Heap.get?_push_size _ rfl), rfl, 0, rfl⟩
  have nC : H3.Ns C (fun _ => none) := by
    have := Heap.Ns.new H2 (.type "dict")
    rw [hCC] at this
    exact this.at' fun ob e => by rw [← hH3]; exact pushCells_keeps _ _ _ _ e
  have hown : ∀ b ∈ (ownOf scope C).map (·.2), C + 1 ≤ b ∧ H3.IsCell b none := fun b hb' => by
    obtain ⟨⟨x, a⟩, hm, rfl⟩ := List.mem_map.mp hb'
    exact ⟨(ok.empty x a hm).2, (ok.empty x a hm).1⟩
  have newF : ∀ b ∈ FAd (innerEnv c.env scope C) (ownOf scope C), s2.heap.get? b = none := fun b hb' => by
    refine ge_none ?_
    rw [hDD]
    rcases List.mem_cons.mp hb' with e | hb'
    · have e' : @Eq Nat b C := e
      omega
    · have := (hown b hb').1; omega
  have newD : s2.heap.get? D = none := ge_none (by rw [hDD]; exact Nat.le_refl _)
  generalize hMU : wr ++ D :: FAd (innerEnv c.env scope C) (ownOf scope C) = MU
  have inMU : ∀ b, b ∈ MU ↔ b ∈ wr ∨ b = D ∨ b ∈ FAd (innerEnv c.env scope C) (ownOf scope C) := fun b => by rw [← hMU]; simp
  have new0 : ∀ b ∈ MU, s0.heap.get? b = none := fun b hb' => by
    rcases (inMU b).mp hb' with h | rfl | h
    · exact it.new b h
    · exact it.ext.none newD
    · exact it.ext.none (newF b h)
  have muT : ∀ b ∈ MU, b ∉ Tb := fun b hb' => o.pt b (o.fresh s0 b h0 (new0 b hb'))
  have F : FOk (innerEnv c.env scope C) (ownOf scope C) (fun a => c.P a ∧ a ∉ MU) := by
    refine ⟨hk, fun x a h => look_append_some h, fun p hp => lookup_pw (own_pw hnd) hp, fun x a h => inner_kind (own_cell hnd (mem_of_lookup h)), ok.apart, fun p hp e => ?_, fun b hb' => ⟨fun h => h.2 ((inMU b).mpr (.inr (.inr hb'))), muT b ((inMU b).mpr (.inr (.inr hb')))⟩⟩
    have := (hown p.2 (List.mem_map.mpr ⟨p, hp, rfl⟩)).1
    have e' : @Eq Nat p.2 C := e
    omega
  obtain ⟨D1, hD1, T⟩ := it.turns _ _ _ F (htg1 C _ F) (fun a h => ⟨h.1, fun q => h.2 ((inMU a).mpr (.inl q))⟩) (fun a ob h e => ⟨h.1, fun q => by
      rcases (inMU a).mp q with q | q | q
      · exact h.2 q
      · rw [q, newD] at e; cases e
      · rw [newF a q] at e; cases e⟩) (fun b hb' q => by
      obtain ⟨_, ob, e⟩ := it.fpP b hb'
      rw [newF b q] at e; cases e)
  have live3 : ∀ b ∈ MU, ∃ ob, H3.get? b = some ob := fun b hb' => by
    rcases (inMU b).mp hb' with h | rfl | h
    · obtain ⟨ob, e⟩ := T.live 0 _ it.st b h
      exact ⟨ob, up b ob e⟩
    · exact eD
    · rcases List.mem_cons.mp h with e' | h
      · obtain ⟨ob, _, _, e, _⟩ := nC
        have e2 : b = C := e'
        exact ⟨ob, e2 ▸ e⟩
      · obtain ⟨_, ob, e, _⟩ := hown b h; exact ⟨ob, e⟩
  have wrD : D ∉ wr := fun q => by obtain ⟨ob, e⟩ := T.live 0 _ it.st D q; rw [newD] at e; cases e
  have wrF : ∀ b ∈ FAd (innerEnv c.env scope C) (ownOf scope C), b ∉ wr := fun b h q => by obtain ⟨ob, e⟩ := T.live 0 _ it.st b q; rw [newF b h] at e; cases e
  have hDF : D ∉ FAd (innerEnv c.env scope C) (ownOf scope C) := fun q => by
    rcases List.mem_cons.mp q with e | q
    · have e' : @Eq Nat D C := e
      omega
    · have := (hown D q).1; omega
  have hDC : @Ne Nat D C := by omega
  have fpT : ∀ b ∈ fp, b ∉ Tb := fun b hb' => o.pt b (it.fpP b hb').1
  have fpMU : ∀ b ∈ fp, b ∉ FAd (innerEnv c.env scope C) (ownOf scope C) ∧ b ≠ D := fun b hb' => by
    obtain ⟨_, ob, e⟩ := it.fpP b hb'
    exact ⟨fun q => absurd e (by rw [newF b q]; exact nofun), fun q => absurd e (by rw [q, newD]; exact nofun)⟩
  have bt0 : Bt c s0 MU { s2 with heap := H3 } := by
    refine ⟨it.ext.toKp.trans (Kp.of (tk := s2.toks) up), fun P fr tt => ?_, live3⟩
    have h1 := it.tabs P fr tt
    have h2 : c.G.TO (fun a => P a ∧ a ∉ MU) s2.heap := o.g.tmono _ _ _ h1 fun a ob h e => ⟨h.1, fun q => by
      rcases (inMU a).mp q with q | q | q
      · exact h.2 q
      · rw [q, newD] at e; cases e
      · rw [newF a q] at e; cases e⟩
    exact o.g.tok _ _ _ h2 fun a ob _ e => up a ob e
  have loop : codeAny c.M c.A (.compLoop (.ListComp elt [⟨t1, i1, [], 0⟩, ⟨t2, i2, [], 0⟩] scope pos) 0 (.ref I) (.ref D) (innerEnv c.env scope C)) (RR (.ref D) C) { s2 with heap := H3 } := by
    refine comp_loop2 (fun k s => ∃ i σ vs, k = n + 1 - i ∧ i ≤ n ∧ Bt c s0 MU s ∧ St i s.heap ∧ D1 s.heap s.toks ∧ Vars (innerEnv c.env scope C) (ownOf scope C) σ (fun a => c.P a ∧ a ∉ MU) s.heap s.toks ∧ s.heap.IsList D vs.toArray ∧
      VRs s.heap s.toks (fun a => c.P a ∧ a ∉ MU) (pre i) vs) (hs2 C) ?_ (n + 1)
      ⟨0, [], [], rfl, Nat.zero_le _, bt0, T.frame _ _ _ it.st fun b _ ob e => up b ob e, T.dk _ _ _ _ hD1 (fun b ob _ e => up b ob e) (Nat.le_refl _), ⟨⟨_, nC, fun x r e => nomatch e⟩, fun x a e => ⟨none, (hown a (List.mem_map.mpr ⟨_, mem_of_lookup e, rfl⟩)).2, fun r er => nomatch er⟩⟩, lD, hpre0 ▸ .nil⟩
    rintro k s ⟨i, σ, vs, rfl, hi, B, st, d, V, hl, hv⟩ EE
    by_cases hin : i = n
    · subst hin
      refine T.done s _ _ st fun h' tk hle keep => ?_
      have out : ∀ b ob, s0.heap.get? b = some ob → b ∉ wr := fun b ob e q => by rw [it.new b q] at e; cases e
      have x1 : Ext c.G s0 { s with heap := h', toks := tk } := by
        have hle' := Nat.le_trans B.kp.le hle
        obtain ⟨h1, tk1, e1⟩ := B.kp.same
        refine ⟨⟨⟨h', tk, by rw [e1]⟩, fun a ob n e => keep a ob (out a ob e) (B.kp.keep a ob n e), fun a ob e => ?_, hle'⟩, fun P fr tt => ?_⟩
        · obtain ⟨o', e'⟩ := B.kp.live a ob e
          exact ⟨o', keep a o' (out a ob e) e'⟩
        · refine o.g.tmono (fun a => P a ∧ a ∉ MU) _ _ (o.g.tok _ _ _ (B.tabs P fr tt) fun a ob h e => keep a ob ?_ e) fun a _ h _ => h.1
          exact h.elim (fun h q => h.2 ((inMU a).mpr (.inl q))) fun ht q => muT a ((inMU a).mpr (.inl q)) ht
      refine hR D C _ vs (new0 D ((inMU D).mpr (.inr (.inl rfl)))) (new0 C ((inMU C).mpr (.inr (.inr (.head _))))) hDC x1 (hl.at fun ob e => keep D ob wrD e) ?_ ?_ ?_ fun P fr tt => ?_
      · exact hv.mono (fun b ob pb e => keep b ob (fun q => pb.2 ((inMU b).mpr (.inl q))) e) (fun b h => ⟨h.1, fun q => h.2 ((inMU b).mpr (.inr (.inl q))), fun q => h.2 ((inMU b).mpr (.inr (.inr (q ▸ .head _))))⟩) hle
      · obtain ⟨m, hm, _⟩ := V.loc
        exact ⟨m, hm.at' fun ob e => keep C ob (wrF C (.head _)) e⟩
      · obtain ⟨ob, e⟩ := B.live D ((inMU D).mpr (.inr (.inl rfl)))
        exact ⟨ob, keep D ob wrD e⟩
      · refine o.g.tmono (fun a => P a ∧ a ∉ MU) _ _ (o.g.tok _ _ _ (B.tabs P fr tt) fun a ob h e => keep a ob ?_ e) fun b _ h _ => ⟨h.1, fun q => h.2 ((inMU b).mpr (.inr (.inl q))), fun q => h.2 ((inMU b).mpr (.inr (.inr (q ▸ .head _))))⟩
        exact h.elim (fun h q => h.2 ((inMU a).mpr (.inl q))) fun ht q => muT a ((inMU a).mpr (.inl q)) ht
    · have hlt : i < n := Nat.lt_of_le_of_ne hi hin
      refine T.item i s σ _ _ _ hlt st d V fun s' st' V' x1 => ?_
      have offK : ∀ b, b ∉ MU → b ∉ wr ++ FAd (innerEnv c.env scope C) (ownOf scope C) := fun b h q => h ((inMU b).mpr ((List.mem_append.mp q).imp_right .inr))
      have B' : Bt c s0 MU s' := B.up o muT new0 x1.same (fun a ob h e => x1.keep a ob (offK a h) e) (fun a h => let ⟨ob, e⟩ := B.live a h; x1.live a ob e) x1.le
      have d' : D1 s'.heap s'.toks := T.dk _ _ _ _ d (fun b ob pb e => x1.keep b ob (offK b pb.2) e) x1.le
      have hl' : s'.heap.IsList D vs.toArray := hl.at fun ob e => x1.keep D ob (fun q => (List.mem_append.mp q).elim wrD hDF) e
      have hv' := hv.mono (h' := s'.heap) (fun b ob pb e => x1.keep b ob (offK b pb.2) e) (fun b p => p) x1.le
      have ownT : ∀ a ∈ (ownOf scope C).map (·.2), a ∉ Tb := fun a ha => muT a ((inMU a).mpr (.inr (.inr (.tail _ ha))))
      have oi : (c.inner scope C MU (bs i)).Ok := inner_ok o F
      have ph : (c.inner scope C MU (bs i)).Φ s' := by
        have g0 := o.glob s0 h0
        have g1 : Glob c.G c.P s' := g0.ext o.g (B'.ext o) fun a e => o.fresh s0 a h0 e
        exact ⟨⟨s0, h0, B'.ext o, new0⟩, ⟨g1.keep, B'.tabs c.P (fun a e => o.fresh s0 a h0 e) g0.tabs, g1.gens, g1.pos⟩, V'.sub fun x r e => look_append_some e, B'.live⟩
      refine hi2 C MU i hlt ownT oi s' _ _ ph fun I2 fp2 wr2 St2 s3 it2 => ?_
      have new2 : ∀ b ∈ wr2, s'.heap.get? b = none := it2.new
      have nin2 : ∀ {b ob}, s'.heap.get? b = some ob → b ∉ wr2 := fun {b ob} e q => by rw [new2 b q] at e; cases e
      have in2 : ∀ b, b ∈ MU ++ wr2 ↔ b ∈ MU ∨ b ∈ wr2 := fun b => List.mem_append
      have newM : ∀ b ∈ MU ++ wr2, s0.heap.get? b = none := fun b q => ((in2 b).mp q).elim (new0 b) fun q => B'.kp.none (new2 b q)
      have muT2 : ∀ b ∈ MU ++ wr2, b ∉ Tb := fun b q => o.pt b (o.fresh s0 b h0 (newM b q))
      have F2 : FOk (innerEnv c.env scope C) (ownOf scope C) (fun a => c.P a ∧ a ∉ MU ++ wr2) := F.sub fun a p => ⟨p.1, fun q => p.2 ((in2 a).mpr (.inl q))⟩
      have fp2I : ∀ b ∈ fp2, (c.P b ∧ b ∉ MU) ∧ ∃ ob, s3.heap.get? b = some ob := it2.fpP
      obtain ⟨D2, hD2, T2⟩ := it2.turns _ _ (fun a => c.P a ∧ a ∉ MU ++ wr2) F2 (htg2 C _ F2) (fun a p => ⟨⟨p.1, fun q => p.2 ((in2 a).mpr (.inl q))⟩, fun q => p.2 ((in2 a).mpr (.inr q))⟩) (fun a ob p e => ⟨p.1.1, fun q => ((in2 a).mp q).elim p.1.2 p.2⟩) (fun b hb' q => (fp2I b hb').1.2 ((inMU b).mpr (.inr (.inr q))))
      have wr2F : ∀ b ∈ wr2, b ∈ fp2 := T2.sub
      have x3 : Ext c.G s' s3 := it2.ext
      have pT : ∀ {b}, c.P b → b ∉ Tb := fun {b} p => o.pt b p
      have B3 : Bt c s0 (MU ++ wr2) s3 := by
        refine ⟨B'.kp.trans x3.toKp, fun P fr tt => ?_, fun a q => ?_⟩
        · have := it2.tabs (fun a => P a ∧ a ∉ MU) (fun a e => ⟨fr a (B'.kp.none e), fun q => by obtain ⟨ob, eo⟩ := B'.live a q; rw [e] at eo; cases eo⟩) (B'.tabs P fr tt)
          exact o.g.tmono _ _ _ this fun a _ p _ => ⟨p.1.1, fun q => ((in2 a).mp q).elim p.1.2 p.2⟩
        · rcases (in2 a).mp q with q | q
          · obtain ⟨ob, e⟩ := B'.live a q; exact x3.live a ob e
          · exact T2.live 0 _ it2.st a q
      have muT' : ∀ b, b ∈ MU → b ∉ Tb := muT
      have V3 : Vars (innerEnv c.env scope C) (ownOf scope C) (bs i ++ σ) (fun a => c.P a ∧ a ∉ MU ++ wr2) s3.heap s3.toks := V'.up (fun b ob p e => x3.keep b ob (p.elim (fun p => pT p.1) fun q => muT b ((inMU b).mpr (.inr (.inr q)))) e) (fun a ob p e => ⟨p.1, fun q => ((in2 a).mp q).elim p.2 (nin2 e)⟩) x3.le
      have hDT : D ∉ Tb := muT D ((inMU D).mpr (.inr (.inl rfl)))
      have hl3 : s3.heap.IsList D vs.toArray := hl'.at fun ob e => x3.keep D ob hDT e
      have hv3 : VRs s3.heap s3.toks (fun a => c.P a ∧ a ∉ MU ++ wr2) (pre i) vs := hv'.up (fun b ob pb e => x3.keep b ob (pT pb.1) e) (fun a ob p e => ⟨p.1, fun q => ((in2 a).mp q).elim p.2 (nin2 e)⟩) x3.le
      have hD2' : D ∉ wr2 := by obtain ⟨ob, e, _⟩ := hl'; exact nin2 e
      have wr2F' : ∀ b ∈ FAd (innerEnv c.env scope C) (ownOf scope C), b ∉ wr2 := fun b q => by obtain ⟨ob, e⟩ := B'.live b ((inMU b).mpr (.inr (.inr q))); exact nin2 e
      have fp2o : ∀ b ∈ fp2, b ∉ Tb ∧ b ≠ D ∧ b ∉ FAd (innerEnv c.env scope C) (ownOf scope C) := fun b q => ⟨pT (fp2I b q).1.1, fun e => (fp2I b q).1.2 ((inMU b).mpr (.inr (.inl e))), fun e => (fp2I b q).1.2 ((inMU b).mpr (.inr (.inr e)))⟩
      have loop2 : ∀ EE, codeAny c.M c.A (.compLoop (.ListComp elt [⟨t1, i1, [], 0⟩, ⟨t2, i2, [], 0⟩] scope pos) 1 (.ref I2) (.ref D) (innerEnv c.env scope C)) (fun r s5 => match r with | .ok f => (∃ m, m < n + 1 - i ∧ ∃ i σ vs, m = n + 1 - i ∧ i ≤ n ∧ Bt c s0 MU s5 ∧ St i s5.heap ∧ D1 s5.heap s5.toks ∧ Vars (innerEnv c.env scope C) (ownOf scope C) σ (fun a => c.P a ∧ a ∉ MU) s5.heap s5.toks ∧ s5.heap.IsList D vs.toArray ∧ VRs s5.heap s5.toks (fun a => c.P a ∧ a ∉ MU) (pre i) vs) | .error e => cameBackBy c.M c.A (innerEnv c.env scope C) EE e s5) s3 := by
        intro EE
        refine comp_loopI (fun k s => ∃ j σ vs, k = n2 + 1 - j ∧ j ≤ n2 ∧ (∀ x r, (bs i).lookup x = some r → σ.lookup x = some r) ∧ (∀ b ob, b ∉ Tb → b ≠ D → b ∉ FAd (innerEnv c.env scope C) (ownOf scope C) → s'.heap.get? b = some ob → s.heap.get? b = some ob) ∧ s'.toks ≤ s.toks ∧ Bt c s0 (MU ++ wr2) s ∧ St2 j s.heap ∧ D2 s.heap s.toks ∧
          Vars (innerEnv c.env scope C) (ownOf scope C) σ (fun a => c.P a ∧ a ∉ MU ++ wr2) s.heap s.toks ∧ s.heap.IsList D vs.toArray ∧ VRs s.heap s.toks (fun a => c.P a ∧ a ∉ MU ++ wr2) (pre i ++ (List.range j).map (f i)) vs) ?_ (n2 + 1)
          ⟨0, _, vs, rfl, Nat.zero_le _, fun x r e => look_append_some e, fun b ob h1 _ _ e => x3.keep b ob h1 e, x3.le, B3, it2.st, hD2, V3, hl3, by simpa using hv3⟩
        rintro k s ⟨j, σ2, vs2, rfl, hj, hσ, kp, le, B4, st4, d4, V4, hl4, hv4⟩ EE2
        by_cases hjn : j = n2
        · subst hjn
          refine T2.done s _ _ st4 fun h' tk hle keep => ?_
          have keep' : ∀ b ob, b ∉ Tb → b ≠ D → b ∉ FAd (innerEnv c.env scope C) (ownOf scope C) → s'.heap.get? b = some ob → h'.get? b = some ob := fun b ob h1 h2 h3 e => keep b ob (nin2 e) (kp b ob h1 h2 h3 e)
          have B5 : Bt c s0 MU { s with heap := h', toks := tk } := by
            have le0 := Nat.le_trans B4.kp.le hle
            have out : ∀ a ob, s0.heap.get? a = some ob → a ∉ wr2 := fun a ob e q => by rw [newM a ((in2 a).mpr (.inr q))] at e; cases e
            refine ⟨⟨?_, fun a ob h e => keep a ob (out a ob e) (B4.kp.keep a ob h e), fun a ob e => ?_, le0⟩, fun P fr tt => ?_, fun a q => ?_⟩
            · obtain ⟨h1, tk1, e1⟩ := B4.kp.same
              exact ⟨h', tk, by rw [e1]⟩
            · obtain ⟨o', e'⟩ := B4.kp.live a ob e
              exact ⟨o', keep a o' (out a ob e) e'⟩
            · refine o.g.tmono _ _ _ (o.g.tok _ _ _ (B4.tabs P fr tt) fun a ob h e => keep a ob (fun q => ?_) e) fun a _ p _ => ⟨p.1, fun q => p.2 ((in2 a).mpr (.inl q))⟩
              exact h.elim (fun h => h.2 ((in2 a).mpr (.inr q))) fun ht => muT2 a ((in2 a).mpr (.inr q)) ht
            · obtain ⟨ob, e⟩ := B4.live a ((in2 a).mpr (.inl q))
              obtain ⟨ob', e'⟩ := B'.live a q
              exact ⟨ob, keep a ob (nin2 e') e⟩
          refine ⟨n + 1 - (i + 1), by omega, i + 1, _, vs2, rfl, hlt, B5, T.frame _ _ _ st' fun b hb' ob e => keep' b ob (fpT b hb') (fpMU b hb').2 (fpMU b hb').1 e,
            T.dk _ _ _ _ d' (fun b ob pb e => keep' b ob (pT pb.1) (fun q => pb.2 ((inMU b).mpr (.inr (.inl q)))) (fun q => pb.2 ((inMU b).mpr (.inr (.inr q)))) e) (Nat.le_trans le hle), V4.up (fun b ob p e => keep b ob (p.elim (fun p q => p.2 ((in2 b).mpr (.inr q))) fun q => wr2F' b q) e) (fun a ob p e => ⟨p.1, fun q => p.2 ((in2 a).mpr (.inl q))⟩) hle, hl4.at fun ob e => keep D ob hD2' e, ?_⟩
          rw [hpre]
          exact hv4.up (fun b ob pb e => keep b ob (fun q => pb.2 ((in2 b).mpr (.inr q))) e) (fun a ob p e => ⟨p.1, fun q => p.2 ((in2 a).mpr (.inl q))⟩) hle
        · have hjl : j < n2 := Nat.lt_of_le_of_ne hj hjn
          refine T2.item j s σ2 _ _ _ hjl st4 d4 V4 fun s5 st5 V5 x5 => ?_
          have off5 : ∀ b, b ∉ MU ++ wr2 → b ∉ wr2 ++ FAd (innerEnv c.env scope C) (ownOf scope C) := fun b h q => h ((in2 b).mpr ((List.mem_append.mp q).elim .inr fun q => .inl ((inMU b).mpr (.inr (.inr q)))))
          have B5 : Bt c s0 (MU ++ wr2) s5 := B4.up o muT2 newM x5.same (fun a ob h e => x5.keep a ob (off5 a h) e) (fun a h => let ⟨ob, e⟩ := B4.live a h; x5.live a ob e) x5.le
          have d5 : D2 s5.heap s5.toks := T2.dk _ _ _ _ d4 (fun b ob pb e => x5.keep b ob (off5 b pb.2) e) x5.le
          have hl5 : s5.heap.IsList D vs2.toArray := hl4.at fun ob e => x5.keep D ob (fun q => (List.mem_append.mp q).elim hD2' hDF) e
          have hv5 := hv4.mono (h' := s5.heap) (fun b ob pb e => x5.keep b ob (off5 b pb.2) e) (fun b p => p) x5.le
          have kp5 : ∀ b ob, b ∉ Tb → b ≠ D → b ∉ FAd (innerEnv c.env scope C) (ownOf scope C) → s'.heap.get? b = some ob → s5.heap.get? b = some ob := fun b ob h1 h2 h3 e => x5.keep b ob (fun q => (List.mem_append.mp q).elim (nin2 e) h3) (kp b ob h1 h2 h3 e)
          have oi2 : (c.inner scope C (MU ++ wr2) (bs2 i j ++ bs i)).Ok := inner_ok o F2
          have hσ5 : ∀ x r, (bs i).lookup x = some r → (bs2 i j ++ σ2).lookup x = some r := fun x r e => by rw [look_append (hdis i j x r e)]; exact hσ x r e
          have ph5 : (c.inner scope C (MU ++ wr2) (bs2 i j ++ bs i)).Φ s5 := by
            have g0 := o.glob s0 h0
            have g1 : Glob c.G c.P s5 := g0.ext o.g (B5.ext o) fun a e => o.fresh s0 a h0 e
            refine ⟨⟨s0, h0, B5.ext o, newM⟩, ⟨g1.keep, B5.tabs c.P (fun a e => o.fresh s0 a h0 e) g0.tabs, g1.gens, g1.pos⟩, V5.sub fun x r e => ?_, B5.live⟩
            cases e2 : (bs2 i j).lookup x with
            | none => rw [look_append e2] at e ⊢; exact hσ x r e
            | some r' => rw [look_append_some e2] at e ⊢; exact e
          refine hb C (MU ++ wr2) i j hlt hjl ownT oi2 s5 ph5 _ _ fun y s6 x6 y6 => ?_
          have B6 : Bt c s0 (MU ++ wr2) s6 := B5.onE x6
          have V6 := V5.ext F2 (fun a pa => o.pt a pa.1) x6
          have st6 := T2.frame _ _ _ st5 fun b hb' ob e => x6.keep b ob (fp2o b hb').1 e
          have d6 := T2.dk _ _ _ _ d5 (fun b ob pb e => x6.keep b ob (o.pt b pb.1) e) x6.le
          have hl6 : s6.heap.IsList D vs2.toArray := hl5.at fun ob e => x6.keep D ob hDT e
          have hv6 := hv5.mono (h' := s6.heap) (fun b ob pb e => x6.keep b ob (o.pt b pb.1) e) (fun b p => p) x6.le
          have hys : vs2.toArray.size ≤ sizeLine := by
            rw [List.size_toArray, ← hv6.length, List.length_append, List.length_map, List.length_range]
            exact Nat.le_trans (Nat.add_le_add (hpl i hi) (Nat.le_trans hj hn2)) (by decide)
          refine wpAny_list_append (hsz := hys) hl6 fun h7 hl7 hs7 => ?_
          have k7 : ∀ b ob, b ≠ D → s6.heap.get? b = some ob → h7.get? b = some ob := fun b ob h e => hs7.extBut b ob h e
          have nD : ∀ {b}, b ∉ MU ++ wr2 → b ≠ D := fun {b} h q => h ((in2 b).mpr (.inl ((inMU b).mpr (.inr (.inl q)))))
          refine ⟨n2 + 1 - (j + 1), by omega, j + 1, _, vs2 ++ [y], rfl, hjl, hσ5, fun b ob h1 h2 h3 e => k7 b ob h2 (x6.keep b ob h1 (kp5 b ob h1 h2 h3 e)), Nat.le_trans le (Nat.le_trans x5.le x6.le), B6.up o muT2 newM ⟨h7, _, rfl⟩ (fun a ob h e => k7 a ob (nD h) e) (fun a h => ?_) (Nat.le_refl _), T2.frame _ _ _ st6 fun b hb' ob e => k7 b ob (fp2o b hb').2.1 e,
            T2.dk _ _ _ _ d6 (fun b ob pb e => k7 b ob (nD pb.2) e) (Nat.le_refl _), V6.keep fun b ob hb' e => k7 b ob (hb'.elim (fun pb => nD pb.2) fun h q => hDF (q ▸ h)) e, by simpa using hl7, ?_⟩
          · by_cases q : a = D
            · obtain ⟨ob, e, _⟩ := hl7; exact ⟨ob, q ▸ e⟩
            · obtain ⟨ob, e⟩ := B6.live a h; exact ⟨ob, k7 a ob q e⟩
          · rw [List.range_succ, List.map_append, ← List.append_assoc]
            exact VRs.append (hv6.mono (fun b ob pb e => k7 b ob (nD pb.2) e) fun b p => p) (.cons (y6.mono (fun b ob pb e => k7 b ob (nD pb.2) e) fun b p => p) .nil)
      exact compStart_two (loop2 _) fun EE' => T2.self 0 _ _ _ it2.st (loop2 _)
  exact codeAny_compStart_list loop (T.self 0 _ _ _ (T.frame _ _ _ it.st fun b _ ob e => up b ob e) loop)
theorem EvE.comp2 {c : Cx} {elt t1 i1 t2 i2 : Expr} {scope : Scope} {pos : Pos} {n n2 : Nat} {bs : Nat → List (Str × AV)} {bs2 : Nat → Nat → List (Str × AV)} {Tg1 Tg2 : Env → List (Str × Addr) → (Addr → Prop) → Prop} {f : Nat → Nat → AV} (pre : Nat → List AV)
    (hpre0 : pre 0 = []) (hpre : ∀ i, pre (i + 1) = pre i ++ (List.range n2).map (f i)) (hpl : ∀ i, i ≤ n → (pre i).length ≤ 10000) (hn2 : n2 ≤ 10000) (hn : n ≤ 1000000)
    (hi : EvG c i1 t1 n bs Tg1) (hnd : (scope.names.map Prod.fst).Nodup) (hfree : c.Ok → ∀ p ∈ scope.names, p.2 = .free → (c.env.cells.lookup p.1).isSome = true)
    (htg1 : ∀ C P', FOk (innerEnv c.env scope C) (ownOf scope C) P' → Tg1 (innerEnv c.env scope C) (ownOf scope C) P') (htg2 : ∀ C P', FOk (innerEnv c.env scope C) (ownOf scope C) P' → Tg2 (innerEnv c.env scope C) (ownOf scope C) P')
    (hdis : ∀ i j x r, (bs i).lookup x = some r → (bs2 i j).lookup x = none)
    (hi2 : c.Ok → ∀ C MU i, i < n → (∀ a ∈ (ownOf scope C).map (·.2), a ∉ Tb) → EvG (c.inner scope C MU (bs i)) i2 t2 n2 (bs2 i) Tg2)
    (hb : c.Ok → ∀ C MU i j, i < n → j < n2 → (∀ a ∈ (ownOf scope C).map (·.2), a ∉ Tb) → EvE (c.inner scope C MU (bs2 i j ++ bs i)) elt (f i j))
    (hk : scope.kind = .function := by rfl) (hs2 : ∀ C x, foldedSetIterable i2 (innerEnv c.env scope C) x = pure x := by intro _ _; rfl) (hs : ∀ x, foldedSetIterable i1 c.env x = pure x := by intro _; rfl) :
    EvE c (.ListComp elt [⟨t1, i1, [], 0⟩, ⟨t2, i2, [], 0⟩] scope pos) (.list (pre n)) := fun o s h0 Q E kk => by
  have names : ∀ x ∈ scope.names, x.2 = .local → scope.names.lookup x.1 = some .local := fun x hx e => by
    have := lookup_pw (pw_of_nodup hnd) (show (x.1, x.2) ∈ scope.names from hx)
    rw [e] at this; exact this
  show wpAny c.M c.A (eval _ c.env) Q E s
  rw [eval_ListComp]
  refine wpAny_comprehension_free (use := none) rfl hs (closure_eq (hfree o)) hk names ?_
  refine hi o s _ _ h0 fun I fp wr St s2 it => ?_
  refine comp_core2 (RR := fun acc C => compPost c.M c.A E none Q acc C) o hpre0 hpre hpl hn2 hk hnd hs2 htg1 htg2 hdis (hi2 o) (hb o) h0 it hn ?_
  rintro D C s' vs hD hC hDC x hl hv ⟨m, hm⟩ hDo htab
  refine ⟨m, hm, fun h' hs' => ?_⟩
  have x2 : Ext c.G s { s' with heap := h' } := let_go o x hC hs' (o.pt C (o.fresh s C h0 hC)) fun P fr tt => o.g.tmono _ _ _ (htab P fr tt) fun a _ h _ => ⟨h.1, h.2.2⟩
  exact kk _ _ x2 (.list (o.fresh s D h0 hD) (hl.extBut hs'.extBut hDC) (hv.mono (fun b ob pb e => hs'.extBut b ob pb.2.2 e) fun b p => p.1))
noncomputable def cellsN (ns : List Int) : Nat → List Int
  | 0 => [732009, 3125, 2]
  | i + 1 => (cellsN ns i).set (i % 3) (nth (cellsN ns i) ((i % 3 : Nat) : Int) + (nth ns (i : Nat)).fmod 1000000)
theorem cellsN_len (ns : List Int) : ∀ i, (cellsN ns i).length = 3
  | 0 => rfl
  | i + 1 => by unfold cellsN; rw [List.length_set]; exact cellsN_len ns i
theorem nth_set {l : List Int} {i j : Nat} {v : Int} : nth (l.set i v) (j : Nat) = if i = j ∧ j < l.length then v else nth l (j : Nat) := by
  unfold nth
  rw [Int.toNat_natCast, List.getElem?_set]
  by_cases h : i = j
  · subst h
    by_cases q : i < l.length
    · simp [q]
    · simp [q]
  · simp [h]
theorem cellsN_b (ns : List Int) : ∀ i (j : Nat), j < 3 → 0 ≤ nth (cellsN ns i) (j : Nat) ∧ nth (cellsN ns i) (j : Nat) ≤ 732009 + 1000000 * i
  | 0, j, h => by
    match j, h with
    | 0, _ => exact (by decide : 0 ≤ nth [732009, 3125, 2] ((0 : Nat) : Int) ∧ nth [732009, 3125, 2] ((0 : Nat) : Int) ≤ 732009 + 1000000 * ((0 : Nat) : Int))
    | 1, _ => exact (by decide : 0 ≤ nth [732009, 3125, 2] ((1 : Nat) : Int) ∧ nth [732009, 3125, 2] ((1 : Nat) : Int) ≤ 732009 + 1000000 * ((0 : Nat) : Int))
    | 2, _ => exact (by decide : 0 ≤ nth [732009, 3125, 2] ((2 : Nat) : Int) ∧ nth [732009, 3125, 2] ((2 : Nat) : Int) ≤ 732009 + 1000000 * ((0 : Nat) : Int))
  | i + 1, j, h => by
    unfold cellsN
    have h1 := cellsN_b ns i j h
    have h2 := cellsN_b ns i (i % 3) (Nat.mod_lt _ (by decide))
    have h3 : 0 ≤ (nth ns (i : Nat)).fmod 1000000 ∧ (nth ns (i : Nat)).fmod 1000000 < 1000000 := by
      rw [Int.fmod_eq_emod_of_nonneg _ (by decide)]; omega
    rw [nth_set]
    split
    · omega
    · omega
noncomputable def cells3 (ns : List Int) : List Int := cellsN (ns.take 60) (ns.take 60).length
noncomputable def ahd (i : Nat) : Int := if (3 : Int) < (i : Int) + 1 then 3 else (i : Int) + 1
noncomputable def lt4 (i : Nat) : Bool := decide ((i : Int) < 4)
noncomputable def dvN (i : Nat) : Int := if lt4 i = true then 2 * ahd i else 32
noncomputable def restN (c0 : Int) : Nat → Int
  | 0 => c0
  | i + 1 => (restN c0 i).fdiv (dvN i)
noncomputable def fstN (c0 : Int) (i : Nat) : Int := if lt4 i = true then ahd i else ((restN c0 i).fdiv 2).fmod 4
noncomputable def lstN (c0 : Int) (i : Nat) : Int := if lt4 i = true then ((restN c0 i).fdiv 2).fmod (ahd i) else ((restN c0 i).fdiv 8).fmod 4
noncomputable def swpN (c0 : Int) (i : Nat) : Bool := ((restN c0 i).fmod 2 != 0) && lt4 i
noncomputable def pipeN (c0 : Int) (i : Nat) : Int × Int := if swpN c0 i then (lstN c0 i, fstN c0 i) else (fstN c0 i, lstN c0 i)
noncomputable def pipesN (c0 : Int) (n : Nat) : List (Int × Int) := (List.range n).map (pipeN c0)
theorem ahd_b (i : Nat) : 1 ≤ ahd i ∧ ahd i ≤ 3 := by unfold ahd; split <;> omega
theorem restN_b {c0 : Int} (h0 : 0 ≤ c0) (h1 : c0 ≤ 100000000) : ∀ i, 0 ≤ restN c0 i ∧ restN c0 i ≤ 100000000
  | 0 => ⟨h0, h1⟩
  | i + 1 => by
    have ih := restN_b h0 h1 i
    have hd : 1 ≤ dvN i ∧ dvN i ≤ 32 := by unfold dvN; have := ahd_b i; split <;> omega
    unfold restN
    rw [Int.fdiv_eq_ediv_of_nonneg _ (by omega)]
    have h2 := Int.ediv_nonneg ih.1 (show 0 ≤ dvN i by omega)
    have h3 : restN c0 i / dvN i ≤ restN c0 i := Int.ediv_le_self _ ih.1
    omega
theorem fm_b (a : Int) {n : Int} (hn : 0 < n) : 0 ≤ a.fmod n ∧ a.fmod n < n := by
  rw [Int.fmod_eq_emod_of_nonneg _ (by omega)]
  exact ⟨Int.emod_nonneg _ (by omega), Int.emod_lt_of_pos _ hn⟩
theorem pipeN_b (c0 : Int) (i : Nat) : (0 ≤ (pipeN c0 i).1 ∧ (pipeN c0 i).1 < 4) ∧ (0 ≤ (pipeN c0 i).2 ∧ (pipeN c0 i).2 < 4) := by
  have h1 : 0 ≤ fstN c0 i ∧ fstN c0 i < 4 := by
    unfold fstN; have := ahd_b i; have := fm_b ((restN c0 i).fdiv 2) (n := 4) (by decide); split <;> omega
  have h2 : 0 ≤ lstN c0 i ∧ lstN c0 i < 4 := by
    unfold lstN; have := ahd_b i; have := fm_b ((restN c0 i).fdiv 2) (n := ahd i) (by omega); have := fm_b ((restN c0 i).fdiv 8) (n := 4) (by decide); split <;> omega
  unfold pipeN
  split
  · exact ⟨h2, h1⟩
  · exact ⟨h1, h2⟩
noncomputable def sizeN (c2 : Int) : Nat := 5 + ((c2.fdiv 4).fmod 2).toNat
theorem sizeN_eq (c2 : Int) : (5 : Int) + (c2.fdiv 4).fmod 2 = (sizeN c2 : Nat) := by
  have := fm_b (c2.fdiv 4) (n := 2) (by decide); unfold sizeN; omega
theorem sizeN_b (c2 : Int) : sizeN c2 = 5 ∨ sizeN c2 = 6 := by
  have := fm_b (c2.fdiv 4) (n := 2) (by decide); unfold sizeN; omega
noncomputable def signC (p : Int) : Nat := (([35, 32, 34, 92] : List Nat)[p.toNat]?).getD 0
noncomputable def signT (p : Int) : Str := ⟨#[signC p]⟩
noncomputable def wordT (p : Int × Int) : Str := ⟨#[signC p.1, signC p.2]⟩
noncomputable def kindN (c1 : Int) (i : Nat) : Int := (c1.fdiv (3 ^ i)).fmod 3
noncomputable def gapI (c1 : Int) (i : Nat) : Int := (c1.fdiv 729 + i).fmod 4
noncomputable def gapT (g : Int) : Str := ((["\n", " \t", "\r\n", "  "] : List Str)[g.toNat]?).getD ""
noncomputable def markT (k : Int) : Str := ((["", "\"", "\""] : List Str)[k.toNat]?).getD ""
noncomputable def needT (k : Int) (w : Str) : Str := (([w, w, "\"\\"] : List Str)[k.toNat]?).getD ""
noncomputable def inS (a b : Str) : Bool := !(Builtin.Str.occurrences b a 0 b.length 1).isEmpty
noncomputable def escT (nd : Str) (p : Int) : Str := if inS (signT p) nd = true then ("\\" : Str) ++ signT p else signT p
noncomputable def partT (p : Int × Int) (k g : Int) : Str := ((markT k ++ Txt.join "" [escT (needT k (wordT p)) p.1, escT (needT k (wordT p)) p.2]) ++ markT k) ++ gapT g
noncomputable def partN (c0 c1 : Int) (i : Nat) : Str := partT (pipeN c0 i) (kindN c1 i) (gapI c1 i)
noncomputable def textN (c0 c1 : Int) : Nat → Str
  | 0 => ""
  | i + 1 => textN c0 c1 i ++ partN c0 c1 i
noncomputable def endT (c2 : Int) : Str := ((["end", "\"end", "e\\nd", "\"end\""] : List Str)[(c2.fmod 4).toNat]?).getD ""
noncomputable def chkP4 (p : Int × Int) (k g : Int) : Bool := decide ((partT p k g).length ≤ 8) && decide ((markT k).length ≤ 1) && decide ((gapT g).length ≤ 2) && decide ((Txt.join "" [escT (needT k (wordT p)) p.1, escT (needT k (wordT p)) p.2]).length ≤ 4) && JoinOk "" [escT (needT k (wordT p)) p.1, escT (needT k (wordT p)) p.2]
theorem chkP4_all : (([0, 1, 2, 3] : List Int).all fun a => ([0, 1, 2, 3] : List Int).all fun b => ([0, 1, 2] : List Int).all fun k => ([0, 1, 2, 3] : List Int).all fun g => chkP4 (a, b) k g) = true := by decide +kernel
theorem mem4 {a : Int} (h : 0 ≤ a ∧ a < 4) : a ∈ ([0, 1, 2, 3] : List Int) := by
  obtain ⟨h1, h2⟩ := h
  have : a = 0 ∨ a = 1 ∨ a = 2 ∨ a = 3 := by omega
  simpa using this
theorem mem3 {a : Int} (h : 0 ≤ a ∧ a < 3) : a ∈ ([0, 1, 2] : List Int) := by
  obtain ⟨h1, h2⟩ := h
  have : a = 0 ∨ a = 1 ∨ a = 2 := by omega
  simpa using this
theorem chkP4_ok {p : Int × Int} {k g : Int} (h1 : 0 ≤ p.1 ∧ p.1 < 4) (h2 : 0 ≤ p.2 ∧ p.2 < 4) (h3 : 0 ≤ k ∧ k < 3) (h4 : 0 ≤ g ∧ g < 4) : chkP4 p k g = true := by
  have h := chkP4_all
  simp only [List.all_eq_true] at h
  exact h p.1 (mem4 h1) p.2 (mem4 h2) k (mem3 h3) g (mem4 h4)
theorem str_len_app (a b : Str) : (a ++ b).length = a.length + b.length := by
  show (Str.append a b).length = _
  simp [Str.append, Str.length]
theorem textN_len (c0 c1 : Int) : ∀ i, (textN c0 c1 i).length ≤ 8 * i
  | 0 => (by decide : ("" : Str).length ≤ 8 * 0)
  | i + 1 => by
    unfold textN
    rw [str_len_app]
    have h1 := textN_len c0 c1 i
    have h2 := pipeN_b c0 i
    have h3 := chkP4_ok (p := pipeN c0 i) (k := kindN c1 i) (g := gapI c1 i) h2.1 h2.2 (fm_b _ (by decide)) (fm_b _ (by decide))
    unfold chkP4 at h3
    simp only [Bool.and_eq_true, decide_eq_true_eq] at h3
    have h4 : (partN c0 c1 i).length ≤ 8 := h3.1.1.1.1
    omega
theorem endT_len (c2 : Int) : (endT c2).length ≤ 6 := by
  have := fm_b c2 (n := 4) (by decide)
  unfold endT
  generalize c2.fmod 4 = x at *
  have : x = 0 ∨ x = 1 ∨ x = 2 ∨ x = 3 := by omega
  rcases this with rfl | rfl | rfl | rfl <;> decide
noncomputable def lawScS (P : Params) : PSigma fun sc : Scope => (fdAt P 177).scope = sc := by
  refine ⟨?sc, ?h⟩
  case h => conv => lhs; whnf
noncomputable def lawSc (P : Params) : Scope := (lawScS P).1
noncomputable def fcL (G : G0) (A : Around) (L : Addr) : FC := fcS G (A.deeper (fcS G A (fdAt G.w.params 177) (lawSc G.w.params) L 177).env) (fdAt G.w.params 177) (lawSc G.w.params) L 177
theorem FS.list (W : fc.Ok) {s0 s : Shared} {σ : List (Str × AV)} {a : Addr} {xs : List AV} {β : List Item} (h : FS fc s0 σ (Item.plist a xs :: β) s) : FS fc s0 σ (Item.list a xs :: β) s := by
  obtain ⟨vs, n, hl, hv⟩ := h.box _ (.head _)
  exact FS.set W (l := []) (j := Item.list a xs) h rfl ⟨_, _, rfl⟩ (fun _ _ _ e => e) ⟨vs, hl.isList, hv⟩
section
variable {G : G0} {A : Around} {L : Addr} {s0 : Shared} {ns : List Int} {Post : Flow → Shared → Prop}
set_option maxHeartbeats 4000000 in
theorem law_1 (g : GN G) (hn : ns.length ≤ 1000) (W : (fcL G A L).Ok)
    (k : Tri (fcL G A L) (FS (fcL G A L) s0 [("cells", intsA (cells3 ns)), ("script", intsA ns)] []) ((bodyAt G.w.params 177).drop 2) Post) {a : Addr} : Tri (fcL G A L) (FS (fcL G A L) s0 [("cells", .raw (.ref a)), ("script", intsA ns)] [Item.plist a [.int 732009, .int 3125, .int 2]]) ((bodyAt G.w.params 177).drop 1) Post := by
  conv => arg 3; whnf
  conv at k => arg 3; whnf
  have hl60 : (ns.take 60).length ≤ 60 := List.length_take_le _ _
  refine Tri.pre (Pre' := FS (fcL G A L) s0 [("cells", .raw (.ref a)), ("script", intsA ns)] [Item.list a ((cellsN (ns.take 60) 0).map .int)]) ?_ fun s h => FS.list W h
  refine Tri.for W (n := (ns.take 60).length) (bs := fun i => [(("number" : Str), AV.int (nth (ns.take 60) (i : Nat))), (("place" : Str), AV.int (i : Nat))])
    (σs := fun i => [(("cells" : Str), .raw (.ref a)), (("script" : Str), intsA ns)])
    (βs := fun i => [Item.list a ((cellsN (ns.take 60) i).map .int)]) (fun _ => True) (EvG.enum ?_ (EvE.listTo (n := 60) nS (by rw [List.length_map]; omega)) (by rw [← List.map_take, List.length_map]) (by rw [← List.map_take, List.length_map]; omega) (fun j => .int (nth (ns.take 60) (j : Nat))) ?_) (fun P' F j hj => ?_) rfl ?_ trivial ?_ (fun i _ => rfl) (fun _ => ?_)
  · exact EvE.name (Has.builtin rfl (g.glob rfl) rfl)
  · intro j hj
    rw [← List.map_take]
    have := intsA_get (l := ns.take 60) (i := (j : Int)) (by omega) (by omega)
    simpa using this
  · exact AsRs.two F (.inl rfl) (.inl rfl)
  · simp only [List.mem_cons, or_false, forall_eq_or_imp, forall_eq, List.not_mem_nil]
    exact ⟨rfl, rfl⟩
  · intro i it hi _
    have hlx := cellsN_len (ns.take 60) i
    have hfm : ((i : Int).fmod 3) = ((i % 3 : Nat) : Int) := by rw [Int.fmod_eq_emod_of_nonneg _ (by decide)]; omega
    have hm : i % 3 < 3 := Nat.mod_lt _ (by decide)
    have p6 : ((10 : Int) ^ (6 : Int).toNat) = 1000000 := by decide
    have hset : (cellsN (ns.take 60) (i + 1)).map AV.int = ((cellsN (ns.take 60) i).map AV.int).set (((i % 3 : Nat) : Int)).toNat (.int (nth (cellsN (ns.take 60) i) ((i % 3 : Nat) : Int) + (nth (ns.take 60) (i : Nat)).fmod 1000000)) := by
      rw [← List.map_set]; rfl
    refine Tri.augL W (l := [it]) (r := []) (a := a) (xs := (cellsN (ns.take 60) i).map .int) (n := ((i % 3 : Nat) : Int)) nS (by rw [← hfm]; exact EvE.bin (nL W) .int (.fmod (by decide) (by decide))) (by omega) (intsA_get (l := cellsN (ns.take 60) i) (by omega) (by omega)) (by rw [List.length_map]; omega)
      (y2 := .int ((nth (ns.take 60) (i : Nat)).fmod 1000000)) (by rw [← p6]; exact EvE.bin (nL W) (EvE.bin .int .int (.pow (by decide) (by decide) (by decide))) (.fmod (by decide) (by decide))) .iadd rfl rfl (Tri.nil fun s h => ⟨trivial, ?_⟩)
    rw [hset]
    refine FS.sub h ?_
    simp only [List.mem_cons, or_false, forall_eq_or_imp, forall_eq, List.not_mem_nil]
    exact ⟨rfl, rfl⟩
  · refine Tri.back ?_
    refine Tri.pre k fun s h => ?_
    have h1 : FS (fcL G A L) s0 [("cells", .raw (.ref a)), ("script", intsA ns)] [Item.list a ((cells3 ns).map .int)] s := h
    have h2 := FS.freeze W h1 (x := "cells") rfl
    refine FS.sub h2 ?_
    simp only [List.mem_cons, or_false, forall_eq_or_imp, forall_eq, List.not_mem_nil]
    exact ⟨rfl, rfl⟩
end
section
variable {G : G0} {A : Around} {L : Addr} {s0 : Shared} {cl : List Int} {Post : Flow → Shared → Prop}
theorem lawNd (P : Params) : ((lawSc P).names.map Prod.fst).Nodup := of_decide_eq_true (by rfl)
theorem kd_cell (P : Params) (L : Addr) {env : Env} {x : Str} (h1 : env.kindOf x = some .cell) (h2 : (lawSc P).names.lookup x = some .cell) : Kd env (ownOf (lawSc P) L) x := .inr ⟨h1, own_look (lawNd P) h2⟩
set_option maxHeartbeats 4000000 in
theorem law_2 (g : GN G) (hl : cl.length = 3) (W : (fcL G A L).Ok)
    (k : ∀ ap, Tri (fcL G A L) (FS (fcL G A L) s0 [("pipes", .raw (.ref ap)), ("text", .str ""), ("rest", .int (nth cl 0)), ("size", .int (sizeN (nth cl 2) : Nat)), ("cells", intsA cl)] [Item.plist ap []]) ((bodyAt G.w.params 177).drop 3) Post) : Tri (fcL G A L) (FS (fcL G A L) s0 [("cells", intsA cl), ("script", intsA ns)] []) ((bodyAt G.w.params 177).drop 2) Post := by
  conv => arg 3; whnf
  refine Tri.st fun E s hs => ?_
  refine Assign_Tuple ?_ rfl rfl
  refine wpAny_Tuple (wpAny_items_cons ?_ (by rfl))
  refine EvP.run W hs (EvP.list .nil (by simp)) fun ap s1 ha x1 hs1 => ?_
  refine wpAny_items_cons ?_ (by rfl)
  refine EvE.run W hs1 .str fun v s2 x2 y2 hs2 => ?_
  (first | ((first | replace y2 := VR.intI y2 | replace y2 := VR.strI y2); obtain ⟨_, rfl⟩ := y2) | ((first | replace y2 := VR.rawI y2 | replace y2 := VRs.nilI y2 | replace y2 := VR.boolI y2 | replace y2 := VR.noneI y2); subst y2) | cases y2)
  refine wpAny_items_cons ?_ (by rfl)
  refine EvE.run W hs2 (EvE.sub (r1 := intsA cl) (nL W) .int (OpR.itemL (by decide) (by decide) (intsA_get (by decide) (by rw [hl]; decide)))) fun v s3 x3 y3 hs3 => ?_
  (first | ((first | replace y3 := VR.intI y3 | replace y3 := VR.strI y3); obtain ⟨_, rfl⟩ := y3) | ((first | replace y3 := VR.rawI y3 | replace y3 := VRs.nilI y3 | replace y3 := VR.boolI y3 | replace y3 := VR.noneI y3); subst y3) | cases y3)
  refine wpAny_items_cons ?_ (by rfl)
  refine EvE.run W hs3 (r := .int (sizeN (nth cl 2) : Nat)) (by
    rw [← sizeN_eq]
    exact EvE.bin .int (EvE.bin (EvE.bin (EvE.sub (r1 := intsA cl) (nL W) .int (OpR.itemL (by decide) (by decide) (intsA_get (by decide) (by rw [hl]; decide)))) .int (.fdiv (by decide) (by decide))) .int (.fmod (by decide) (by decide))) .add) fun v s4 x4 y4 hs4 => ?_
  (first | ((first | replace y4 := VR.intI y4 | replace y4 := VR.strI y4); obtain ⟨_, rfl⟩ := y4) | ((first | replace y4 := VR.rawI y4 | replace y4 := VRs.nilI y4 | replace y4 := VR.boolI y4 | replace y4 := VR.noneI y4); subst y4) | cases y4)
  refine wpAny_items_nil ⟨Nat.le_trans (show (4 : Nat) ≤ 1000 by decide) (by decide), ?_⟩
  rename_i t2 t3 t4
  have ht4 : (s4.heap.push { cls := .type "tuple", data := .seq [Value.ref ap, .str "" t2, .int (nth cl 0) t3, .int (sizeN (nth cl 2) : Nat) t4].toArray }).IsTuple s4.heap.objs.size [Value.ref ap, .str "" t2, .int (nth cl 0) t3, .int (sizeN (nth cl 2) : Nat) t4].toArray := ⟨_, Heap.get?_push_size _ rfl, rfl, _, rfl⟩
  refine wpAny_assign_Tuple W.rm.1 ht4 (by rfl) (by rfl) fun h' xb => ?_
  have hs5 := FS.ext W hs4 (Ext.of (tk := s4.toks) (le := Nat.le_refl _) W.g fun b ob e => xb b ob (Nat.ne_of_lt (Nat.lt_of_lt_of_le (Heap.lt_size e) (by rw [Heap.size_push]; exact Nat.le_succ _))) (Heap.get?_push_of_some _ e))
  refine assignInOrder_cons (wpAny_assign_Name (hs5.store W (r := .raw (.ref ap)) (kd_cell G.w.params L rfl rfl) .raw fun s6 hs6 => ?_))
  refine assignInOrder_cons (wpAny_assign_Name (hs6.store W (r := .str "") (.inl rfl) .str fun s7 hs7 => ?_))
  refine assignInOrder_cons (wpAny_assign_Name (hs7.store W (r := .int (nth cl 0)) (.inl rfl) .int fun s8 hs8 => ?_))
  refine assignInOrder_cons (wpAny_assign_Name (hs8.store W (r := .int (sizeN (nth cl 2) : Nat)) (kd_cell G.w.params L rfl rfl) .int fun s9 hs9 => assignInOrder_nil fun E' => ?_))
  refine k ap E' s9 (FS.sub hs9 ?_)
  simp only [List.mem_cons, or_false, forall_eq_or_imp, forall_eq, List.not_mem_nil]
  exact ⟨rfl, rfl, rfl, rfl, rfl⟩
end
theorem OpR.ifdiv {c : Cx} {a b : Int} (hb : b ≠ 0) (hb2 : b.natAbs < 1073741824) : OpR c (inplaceOp .FloorDiv) (.int a) (.int b) (.int (a.fdiv b)) := by
  intro o s v1 v2 hs y1 y2 Q E k; (first | ((first | replace y1 := VR.intI y1 | replace y1 := VR.strI y1); obtain ⟨_, rfl⟩ := y1) | ((first | replace y1 := VR.rawI y1 | replace y1 := VRs.nilI y1 | replace y1 := VR.boolI y1 | replace y1 := VR.noneI y1); subst y1) | cases y1); (first | ((first | replace y2 := VR.intI y2 | replace y2 := VR.strI y2); obtain ⟨_, rfl⟩ := y2) | ((first | replace y2 := VR.rawI y2 | replace y2 := VRs.nilI y2 | replace y2 := VR.boolI y2 | replace y2 := VR.noneI y2); subst y2) | cases y2); exact ifloordiv_int hb (k _ _ .tok .int) (.inl (PyProof.noPylong_small hb2))
theorem join2 (a b : Str) : Txt.join "" [a, b] = a ++ b := by
  show (a ++ ("" : Str)) ++ b = a ++ b
  have : a ++ ("" : Str) = a := by
    show Str.append a _ = _
    simp [Str.append]
    rfl
  rw [this]
theorem joinW (p : Int × Int) : Txt.join "" [signT p.1, signT p.2] = wordT p := by
  rw [join2]
  show Str.append _ _ = _
  simp [Str.append, signT, wordT]
theorem joinOk2 (a b : Int) : JoinOk "" [signT a, signT b] = true := by
  show JoinOk "" [⟨#[signC a]⟩, ⟨#[signC b]⟩] = true
  rfl
theorem signC_get {a : Int} (h : 0 ≤ a ∧ a < 4) : (Str.ofString "# \"\\").cps[a.toNat]? = some (signC a) := by
  obtain ⟨h1, h2⟩ := h
  have : a = 0 ∨ a = 1 ∨ a = 2 ∨ a = 3 := by omega
  rcases this with rfl | rfl | rfl | rfl <;> rfl
theorem gapT_get {a : Int} (h : 0 ≤ a ∧ a < 4) : ([.str (Str.ofString "\n"), .str (Str.ofString " \t"), .str (Str.ofString "\x0d\n"), .str (Str.ofString "  ")] : List AV)[a.toNat]? = some (.str (gapT a)) := by
  obtain ⟨h1, h2⟩ := h
  have : a = 0 ∨ a = 1 ∨ a = 2 ∨ a = 3 := by omega
  rcases this with rfl | rfl | rfl | rfl <;> rfl
theorem markT_get {a : Int} (h : 0 ≤ a ∧ a < 3) : ([.str (Str.ofString ""), .str (Str.ofString "\""), .str (Str.ofString "\"")] : List AV)[a.toNat]? = some (.str (markT a)) := by
  obtain ⟨h1, h2⟩ := h
  have : a = 0 ∨ a = 1 ∨ a = 2 := by omega
  rcases this with rfl | rfl | rfl <;> rfl
theorem needT_get {a : Int} {w : Str} (h : 0 ≤ a ∧ a < 3) : ([.str w, .str w, .str (Str.ofString "\"\\")] : List AV)[a.toNat]? = some (.str (needT a w)) := by
  obtain ⟨h1, h2⟩ := h
  have : a = 0 ∨ a = 1 ∨ a = 2 := by omega
  rcases this with rfl | rfl | rfl <;> rfl
noncomputable def pairA (p : Int × Int) : AV := .tup [.int p.1, .int p.2]
noncomputable def pairI (p : Int × Int) : Nat → Int
  | 0 => p.1
  | _ => p.2
theorem pairI_b {p : Int × Int} (h : (0 ≤ p.1 ∧ p.1 < 4) ∧ (0 ≤ p.2 ∧ p.2 < 4)) (i : Nat) : 0 ≤ pairI p i ∧ pairI p i < 4 := by
  cases i with
  | zero => exact h.1
  | succ i => exact h.2
theorem EvE.ifS {c : Cx} {t a b : Expr} {pos : Pos} {x : Bool} {n m : Str} (h : EvT c t x) (h1 : x = true → EvE c a (.str n)) (h2 : x = false → EvE c b (.str m)) : EvE c (.IfExp t a b pos) (.str (if x = true then n else m)) := by
  have := EvE.ifexp (pos := pos) h h1 h2
  cases x <;> exact this
theorem pow3_b {i : Nat} (hi : i < 6) : ((3 : Int) ^ ((i : Int)).toNat) ≠ 0 ∧ ((3 : Int) ^ ((i : Int)).toNat).natAbs < 1073741824 := by
  match i, hi with
  | 0, _ => decide
  | 1, _ => decide
  | 2, _ => decide
  | 3, _ => decide
  | 4, _ => decide
  | 5, _ => decide
theorem ahd_bits (i : Nat) : Builtin.Int.intBits (ahd i) ≤ 64 := by
  have := ahd_b i
  have : ahd i = 1 ∨ ahd i = 2 ∨ ahd i = 3 := by omega
  rcases this with h | h | h <;> rw [h] <;> decide +kernel
section
variable {G : G0} {A : Around} {L : Addr} {s0 : Shared} {cl : List Int} {Post : Flow → Shared → Prop}
set_option maxHeartbeats 16000000 in
theorem law_3 (g : GN G) (hl : cl.length = 3) (hc : ∀ j : Nat, j < 3 → 0 ≤ nth cl (j : Nat) ∧ nth cl (j : Nat) ≤ 100000000) (W : (fcL G A L).Ok)
    (k : Tri (fcL G A L) (FS (fcL G A L) s0 [("pipes", pipesA (pipesN (nth cl 0) (sizeN (nth cl 2)))), ("text", .str (textN (nth cl 0) (nth cl 1) (sizeN (nth cl 2)))), ("size", .int (sizeN (nth cl 2) : Nat)), ("cells", intsA cl)] []) ((bodyAt G.w.params 177).drop 4) Post) {ap : Addr} :
    Tri (fcL G A L) (FS (fcL G A L) s0 [("pipes", .raw (.ref ap)), ("text", .str ""), ("rest", .int (nth cl 0)), ("size", .int (sizeN (nth cl 2) : Nat)), ("cells", intsA cl)] [Item.plist ap []]) ((bodyAt G.w.params 177).drop 3) Post := by
  conv => arg 3; whnf
  conv at k => arg 3; whnf
  have c0 : 0 ≤ nth cl 0 ∧ nth cl 0 ≤ 100000000 := hc 0 (by decide)
  have c1 : 0 ≤ nth cl 1 ∧ nth cl 1 ≤ 100000000 := hc 1 (by decide)
  have g1 : ([AV.int (nth cl 0), .int (nth cl 1), .int (nth cl 2)] : List AV)[(1 : Int).toNat]? = some (.int (nth cl 1)) := rfl
  have hg1 : (cl.map AV.int)[(1 : Int).toNat]? = some (.int (nth cl 1)) := intsA_get (by decide) (by rw [hl]; decide)
  have hN := sizeN_b (nth cl 2)
  generalize nth cl 0 = x0 at *
  generalize nth cl 1 = x1 at *
  generalize hNN : sizeN (nth cl 2) = N at *
  have cP := own_look (C := L) (lawNd G.w.params) (x := "pipes") rfl
  have cZ := own_look (C := L) (lawNd G.w.params) (x := "size") rfl
  have cD := own_look (C := L) (lawNd G.w.params) (x := "needed") rfl
  refine Tri.for W (n := N) (bs := fun i => [(("place" : Str), AV.int (i : Nat))]) (Tg := fun env own P' => Kd env own "place")
    (σs := fun i => [(("pipes" : Str), .raw (.ref ap)), (("text" : Str), .str (textN x0 x1 i)), (("rest" : Str), .int (restN x0 i)), (("size" : Str), .int (N : Nat)), (("cells" : Str), intsA cl)])
    (βs := fun i => [Item.plist ap ((pipesN x0 i).map pairA)]) (fun _ => True) ?_ (fun P' F => .inl rfl) rfl ?_ trivial ?_ (fun i _ => rfl) (fun _ => ?_)
  · refine EvG.nm (EvI.range (n := N) (EvE.name (Has.builtin rfl (g.glob rfl) rfl)) (nSC W cZ) (by omega)) (by simp) (fun i => AV.int (i : Nat)) ?_
    intro i hi
    rw [List.getElem?_map, List.getElem?_range hi]; rfl
  · simp only [List.mem_cons, or_false, forall_eq_or_imp, forall_eq, List.not_mem_nil]
    exact ⟨rfl, rfl, rfl, rfl, rfl⟩
  · intro i it hi _
    have hi6 : i < 6 := by omega
    have ab := ahd_b i
    have rb := restN_b c0.1 c0.2 i
    refine Tri.asgA W (r := .int (ahd i)) (EvE.call (f := .builtin "min") (EvE.name (Has.builtin rfl (g.glob rfl) rfl)) .builtin (.cons (EvE.bin (nL W) .int .add) (.cons .int .nil)) CaR.min2) rfl (.inl rfl) ?_
    have e2 : (if lt4 i = true then AV.tup [.int (ahd i), .int (((restN x0 i).fdiv 2).fmod (ahd i))] else .tup [.int (((restN x0 i).fdiv 2).fmod 4), .int (((restN x0 i).fdiv 8).fmod 4)]) = .tup [.int (fstN x0 i), .int (lstN x0 i)] := by
      unfold fstN lstN; cases lt4 i <;> rfl
    refine Tri.asgT W (rs := [.int (fstN x0 i), .int (lstN x0 i)]) (by
      rw [← e2]
      exact EvE.ifexp (x := lt4 i) (EvT.cmp nS .int .ltI) (fun _ => EvE.tuple (.cons nS (.cons (EvE.bin (EvE.bin nS .int (.fdiv (by decide) (by decide))) nS (.fmod (by omega) (by omega))) .nil)) (by simp))
        (fun _ => EvE.tuple (.cons (EvE.bin (EvE.bin nS .int (.fdiv (by decide) (by decide))) .int (.fmod (by decide) (by decide))) (.cons (EvE.bin (EvE.bin nS .int (.fdiv (by decide) (by decide))) .int (.fmod (by decide) (by decide))) .nil)) (by simp))) (AsRs.two W.Fb (.inl rfl) (.inl rfl)) ?_
    have e3 : (if swpN x0 i = true then AV.tup [.int (lstN x0 i), .int (fstN x0 i)] else .tup [.int (fstN x0 i), .int (lstN x0 i)]) = pairA (pipeN x0 i) := by
      unfold pipeN pairA; cases swpN x0 i <;> rfl
    refine Tri.append W (l := [it]) (r := []) (a := ap) (xs := (pipesN x0 i).map pairA) (y := pairA (pipeN x0 i)) (nSC W cP) (by
      rw [← e3]
      exact EvE.ifexp (x := swpN x0 i) (EvT.and (EvT.plain (EvE.bin nS .int (.fmod (by decide) (by decide))) TrR.int) (fun _ => EvT.and1 (EvT.cmp nS .int .ltI))) (fun _ => EvE.tuple (.cons nS (.cons nS .nil)) (by simp)) (fun _ => EvE.tuple (.cons nS (.cons nS .nil)) (by simp))) (by
      unfold pipesN; rw [List.length_map, List.length_map, List.length_range]; omega) ?_
    have e4 : (pipesN x0 i).map pairA ++ [pairA (pipeN x0 i)] = (pipesN x0 (i + 1)).map pairA := by
      unfold pipesN; rw [List.range_succ, List.map_append, List.map_append]; rfl
    rw [e4]
    have db : 1 ≤ dvN i ∧ dvN i ≤ 32 := by unfold dvN; split <;> omega
    refine Tri.aug W (r1 := .int (restN x0 i)) (r2 := .int (dvN i)) (r := .int (restN x0 (i + 1))) ((Has.loc rfl rfl).big W) (EvE.ifI (x := lt4 i) (EvT.cmp (nL W) .int .ltI) (fun _ => EvE.bin .int (nL W) (.mul (.of_right (ahd_bits i)))) (fun _ => .int)) (OpR.ifdiv (by omega) (by omega)) rfl (.inl rfl) ?_
    have pb := pipeN_b x0 i
    have hlen : ((pipesN x0 (i + 1)).map pairA).length = i + 1 := by unfold pipesN; rw [List.length_map, List.length_map, List.length_range]
    have hlast : ((pipesN x0 (i + 1)).map pairA)[((-1 : Int) + (((pipesN x0 (i + 1)).map pairA).length : Nat)).toNat]? = some (.tup [.int (pipeN x0 i).1, .int (pipeN x0 i).2]) := by
      rw [hlen]
      have : ((-1 : Int) + ((i + 1 : Nat) : Int)).toNat = i := by omega
      rw [this, ← e4, List.getElem?_append_right (by unfold pipesN; simp)]
      unfold pipesN
      simp [pairA]
    refine Tri.asgA W (r := .str (wordT (pipeN x0 i))) (by
      rw [← joinW]
      exact EvE.meth .str MeR.join (rs := [.list (([signT (pipeN x0 i).1, signT (pipeN x0 i).2]).map .str)]) (.cons (EvE.comp0 (n := 2) (f := fun j => .str (signT (pairI (pipeN x0 i) j))) (bs := fun j => [(("point" : Str), AV.int (pairI (pipeN x0 i) j))]) (Tg := fun env own P' => Kd env own "point")
        (EvG.nm (EvI.tuple (xs := [.int (pipeN x0 i).1, .int (pipeN x0 i).2]) (EvE.sub (r1 := .list ((pipesN x0 (i + 1)).map pairA)) (EvE.name (Has.boxP W (Has.cel W rfl cP) (.tail _ (.head _)))) (EvE.neg .int) (OpR.itemLneg (by decide) (by rw [hlen]; omega) (by decide) hlast)) (by simp)) rfl (fun j => AV.int (pairI (pipeN x0 i) j)) (fun j hj => match j, hj with | 0, _ => rfl | 1, _ => rfl))
        (by decide) (of_decide_eq_true (by rfl)) (fun hnd o => free3 (by rfl)) (fun hnd C P' F => Kd.inner hnd rfl (.inl rfl)) fun hnd o C MU j hj hT => EvE.sub .str (nH hnd) (OpR.itemS (pairI_b pb j).1 (by have := pairI_b pb j; omega) (signC_get (pairI_b pb j)))) .nil) (CaR.join (joinOk2 _ _))) rfl (.inl rfl) ?_
    have chk := chkP4_ok (p := pipeN x0 i) (k := kindN x1 i) (g := gapI x1 i) pb.1 pb.2 (fm_b _ (by decide)) (fm_b _ (by decide))
    unfold chkP4 at chk
    simp only [Bool.and_eq_true, decide_eq_true_eq] at chk
    obtain ⟨⟨⟨⟨q1, q2⟩, q3⟩, q4⟩, q5⟩ := chk
    have hk : 0 ≤ kindN x1 i ∧ kindN x1 i < 3 := fm_b _ (by decide)
    have hg : 0 ≤ gapI x1 i ∧ gapI x1 i < 4 := fm_b _ (by decide)
    have p3 := pow3_b hi6
    have tl := textN_len x0 x1 i
    have et : textN x0 x1 (i + 1) = textN x0 x1 i ++ partT (pipeN x0 i) (kindN x1 i) (gapI x1 i) := rfl
    refine Tri.asgSw W (x := "kind") (y := "gap") (r1 := .int (kindN x1 i)) (r2 := .str (gapT (gapI x1 i))) (EvE.tuple (.cons (EvE.bin (EvE.bin (EvE.sub (r1 := intsA cl) (nL W) .int (OpR.itemL (by decide) (by decide) hg1)) (EvE.bin .int (nL W) (.pow (by omega) (by omega) (by decide))) (.fdiv p3.1 p3.2)) .int (.fmod (by decide) (by decide)))
      (.cons (EvE.sub (EvE.list (.cons .str (.cons .str (.cons .str (.cons .str .nil)))) (by simp)) (r2 := .int (gapI x1 i)) (EvE.bin (EvE.bin (EvE.bin (EvE.sub (r1 := intsA cl) (nL W) .int (OpR.itemL (by decide) (by decide) hg1)) .int (.fdiv (by decide) (by decide))) (nL W) .add) .int (.fmod (by decide) (by decide))) (OpR.itemL hg.1 (by omega) (gapT_get hg))) .nil)) (by simp)) rfl rfl (.inl rfl) (.inl rfl) ?_
    refine Tri.asgT W (rs := [.str (markT (kindN x1 i)), .str (needT (kindN x1 i) (wordT (pipeN x0 i)))]) (EvE.tuple (.cons (EvE.sub (EvE.list (.cons .str (.cons .str (.cons .str .nil))) (by simp)) nS (OpR.itemL hk.1 (by omega) (markT_get hk))) (.cons (EvE.sub (EvE.list (.cons nS (.cons nS (.cons .str .nil))) (by simp)) nS (OpR.itemL hk.1 (by omega) (needT_get hk))) .nil)) (by simp)) (AsRs.two W.Fb (.inl rfl) (kd_cell G.w.params L rfl rfl)) ?_
    generalize kindN x1 i = kk at *
    generalize gapI x1 i = gg at *
    generalize pipeN x0 i = p at *
    refine Tri.aug W (r1 := .str (textN x0 x1 i)) (r2 := .str (partT p kk gg)) (r := .str (textN x0 x1 (i + 1))) ((Has.loc rfl rfl).big W)
      (EvE.bin (EvE.bin (EvE.bin (nL W) (EvE.meth .str MeR.join (rs := [.list (([escT (needT kk (wordT p)) p.1, escT (needT kk (wordT p)) p.2]).map .str)]) (.cons (EvE.comp0 (n := 2) (f := fun j => .str (escT (needT kk (wordT p)) (pairI p j))) (bs := fun j => [(("sign" : Str), AV.str (signT (pairI p j)))]) (Tg := fun env own P' => Kd env own "sign")
        (EvG.nm (EvI.str (nL W) (x := wordT p) (show (2 : Nat) ≤ 1000000 by decide)) rfl (fun j => AV.str (signT (pairI p j))) (fun j hj => match j, hj with | 0, _ => rfl | 1, _ => rfl))
        (by decide) (of_decide_eq_true (by rfl)) (fun hnd o => free3 (by rfl)) (fun hnd C P' F => Kd.inner hnd rfl (.inl rfl)) fun hnd o C MU j hj hT => by
          unfold escT
          exact EvE.ifS (x := inS (signT (pairI p j)) (needT kk (wordT p))) (EvT.cmp (nH hnd) (nF o hnd (cC W cD)) .inS) (fun _ => EvE.bin .str (nH hnd) (.addS (show (1 + 1 : Nat) ≤ 1000000 by decide))) (fun _ => nH hnd)) .nil) (CaR.join q5)) (.addS (by omega))) (nL W) (.addS (by rw [str_len_app]; omega))) (nL W) (.addS (by rw [str_len_app, str_len_app]; omega)))
      (by rw [et]; exact OpR.iaddS (by omega)) rfl (.inl rfl) (Tri.nil fun s h => ⟨trivial, FS.sub h ?_⟩)
    simp only [List.mem_cons, or_false, forall_eq_or_imp, forall_eq, List.not_mem_nil]
    exact ⟨rfl, rfl, rfl, rfl, rfl⟩
  · refine Tri.back ?_
    refine Tri.pre k fun s h => ?_
    have h1 : FS (fcL G A L) s0 [("pipes", .raw (.ref ap)), ("text", .str (textN x0 x1 N)), ("rest", .int (restN x0 N)), ("size", .int (N : Nat)), ("cells", intsA cl)] [Item.plist ap ((pipesN x0 N).map pairA)] s := h
    have h2 := FS.freezeP W h1 (x := "pipes") rfl
    refine FS.sub h2 ?_
    simp only [List.mem_cons, or_false, forall_eq_or_imp, forall_eq, List.not_mem_nil]
    exact ⟨rfl, rfl, rfl, rfl⟩
end
noncomputable def lexN (cs0 : List Nat) : Nat → Int × List Nat
  | 0 => (1, cs0)
  | i + 1 => (tokn (lexN cs0 i).1 (lexN cs0 i).2).2
noncomputable def tokAt (cs0 : List Nat) (i : Nat) : List Nat := (tokn (lexN cs0 i).1 (lexN cs0 i).2).1
theorem endT_get {a : Int} (h : 0 ≤ a.fmod 4 ∧ a.fmod 4 < 4) : ([.str (Str.ofString "end"), .str (Str.ofString "\"end"), .str (Str.ofString "e\\nd"), .str (Str.ofString "\"end\"")] : List AV)[(a.fmod 4).toNat]? = some (.str (endT a)) := by
  unfold endT
  generalize a.fmod 4 = x at *
  obtain ⟨h1, h2⟩ := h
  have : x = 0 ∨ x = 1 ∨ x = 2 ∨ x = 3 := by omega
  rcases this with rfl | rfl | rfl | rfl <;> rfl
theorem idx_sign {a : Int} (h : 0 ≤ a ∧ a < 4) : ∃ r, Builtin.Str.occurrences (Str.ofString "# \"\\") (signT a) 0 (Str.ofString "# \"\\").length 1 = a.toNat :: r := by
  obtain ⟨h1, h2⟩ := h
  have : a = 0 ∨ a = 1 ∨ a = 2 ∨ a = 3 := by omega
  rcases this with rfl | rfl | rfl | rfl <;> exact ⟨[], by decide +kernel⟩
section
variable {G : G0} {A : Around} {L : Addr} {s0 : Shared} {cl : List Int} {Post : Flow → Shared → Prop}
set_option maxHeartbeats 16000000 in
theorem law_4 (g : GN G) (rm : Rm (fcL G A L).A 5) {N : Nat} {x0 x1 x2 : Int} {txt : Str} {cs0 : List Nat} (hg2 : (cl.map AV.int)[(2 : Int).toNat]? = some (.int x2)) (hN : N ≤ 100) (htl : txt.length ≤ 1000) (hcs : textCs (txt ++ endT x2) = cs0) (W : (fcL G A L).Ok)
    (htok : ∀ i, i < N → tokAt cs0 i = [signC (pipeN x0 i).1, signC (pipeN x0 i).2]) (hz : ∀ i, i ≤ N → (lexN cs0 i).2.length ≤ 400000)
    (k : ∀ a : LexA, a.ad.Nodup → Tri (fcL G A L) (FS (fcL G A L) s0 [("lexer", .raw (.ref a.aL)), ("pipes", pipesA (pipesN x0 N)), ("text", .str txt), ("size", .int (N : Nat))] [Item.lex G.w.params a (lexN cs0 N).1 (lexN cs0 N).2]) ((bodyAt G.w.params 177).drop 6) Post) :
    Tri (fcL G A L) (FS (fcL G A L) s0 [("pipes", pipesA (pipesN x0 N)), ("text", .str txt), ("size", .int (N : Nat)), ("cells", intsA cl)] []) ((bodyAt G.w.params 177).drop 4) Post := by
  conv => arg 3; whnf
  have cP := own_look (C := L) (lawNd G.w.params) (x := "pipes") rfl
  have hg := fm_b x2 (n := 4) (by decide)
  have el := endT_len x2
  refine Tri.lexer g W rm (text := txt ++ endT x2) (EvE.name (Has.global rfl (g.glob rfl))) (EvE.bin (nL W) (EvE.sub (EvE.list (.cons .str (.cons .str (.cons .str (.cons .str .nil)))) (by simp)) (r2 := .int (x2.fmod 4)) (EvE.bin (EvE.sub (r1 := intsA cl) (nL W) .int (OpR.itemL (by decide) (by decide) hg2)) .int (.fmod (by decide) (by decide))) (OpR.itemL hg.1 (by omega) (endT_get hg))) (.addS (by omega)))
    (by have := str_len_app txt (endT x2); show (txt ++ endT x2).length ≤ _; omega) (.inl rfl) fun a nd => ?_
  rw [hcs]
  have k := k a nd
  conv at k => arg 3; whnf
  refine Tri.for W (n := N) (bs := fun i => [(("pipe" : Str), pairA (pipeN x0 i))]) (Tg := fun env own P' => Kd env own "pipe")
    (σs := fun i => [(("lexer" : Str), .raw (.ref a.aL)), (("pipes" : Str), pipesA (pipesN x0 N)), (("text" : Str), .str txt), (("size" : Str), .int (N : Nat))])
    (βs := fun i => [Item.lex G.w.params a (lexN cs0 i).1 (lexN cs0 i).2]) (fun _ => True) ?_ (fun P' F => .inl rfl) rfl ?_ trivial ?_ (fun i _ => rfl) (fun _ => ?_)
  · refine EvG.nm (EvI.list (xs := (pipesN x0 N).map pairA) (nSC W cP) (by unfold pipesN; simp; omega)) (by unfold pipesN; simp) (fun i => pairA (pipeN x0 i)) ?_
    intro i hi
    unfold pipesN
    rw [List.getElem?_map, List.getElem?_map, List.getElem?_range hi]; rfl
  · simp only [List.mem_cons, or_false, forall_eq_or_imp, forall_eq, List.not_mem_nil]
    exact ⟨rfl, rfl, rfl, rfl⟩
  · intro i it hi _
    have pb := pipeN_b x0 i
    have ht := htok i hi
    generalize hp : pipeN x0 i = p at *
    refine Tri.ifX W (x := false) (r1 := .list [.int p.1, .int p.2]) (r2 := .list [.int p.1, .int p.2]) (β' := [it, Item.lex G.w.params a (lexN cs0 (i + 1)).1 (lexN cs0 (i + 1)).2]) (EvX.comp W (n := 2) (text := wordT p) (t := fun _ => true) (f := fun j => .int (pairI p j)) (g := fun j => .str (signT (pairI p j))) (by
        have e : tokS (tokn (lexN cs0 i).1 (lexN cs0 i).2).1 = wordT p := by
          show tokS (tokAt cs0 i) = _
          rw [ht]; rfl
        rw [← e]
        exact EvX.gt g W rm (l := [it]) (r := []) nd (hz i (by omega)) nS) rfl (by decide) (fun j hj => match j, hj with | 0, _ => rfl | 1, _ => rfl) ⟨by decide, rfl, of_decide_eq_true (by rfl), fun o => free3 (by rfl), fun C P' F => Kd.inner (of_decide_eq_true (by rfl)) rfl (.inl rfl), fun o C MU j hj hT => ⟨.nil, fun _ => ?_⟩⟩)
      (EvE.call (f := .type "list") (EvE.name (Has.builtin rfl (g.glob rfl) rfl)) .type (.cons nS .nil) (CaR.listT (by simp))) (CmR.neLL rfl) (fun h => nomatch h) (fun _ => Tri.back (Tri.nil fun s h => ⟨trivial, ?_⟩))
    · obtain ⟨r, e⟩ := idx_sign (pairI_b pb j)
      have e2 : AV.int (pairI p j) = .int ((pairI p j).toNat : Nat) := by rw [Int.toNat_of_nonneg (pairI_b pb j).1]
      show EvE _ _ (AV.int (pairI p j))
      rw [e2]
      exact EvE.meth .str MeR.index (.cons (nH (of_decide_eq_true (by rfl))) .nil) (CaR.index e)
    · refine FS.sub h ?_
      simp only [List.mem_cons, or_false, forall_eq_or_imp, forall_eq, List.not_mem_nil]
      exact ⟨rfl, rfl, rfl, rfl⟩
  · exact Tri.back k
end
theorem preSum_b {val : Nat → Int} {B : Int} (hB : 0 ≤ B) (n : Nat) (h : ∀ j, j < n → 0 ≤ val j ∧ val j ≤ B) : ∀ j, j ≤ n → 0 ≤ preSum val j ∧ preSum val j ≤ j * B
  | 0, _ => by show (0 : Int) ≤ 0 ∧ (0 : Int) ≤ ((0 : Nat) : Int) * B; constructor <;> simp
  | j + 1, hj => by
    have ih := preSum_b hB n h j (by omega)
    have hv := h j (by omega)
    show 0 ≤ preSum val j + val j ∧ preSum val j + val j ≤ ((j + 1 : Nat) : Int) * B
    have : ((j + 1 : Nat) : Int) * B = j * B + B := by rw [Int.natCast_add, Int.add_mul]; simp
    omega
theorem map_range_nth (l : List Int) : (List.range l.length).map (fun i => nth l (i : Nat)) = l := by
  refine List.ext_getElem? fun i => ?_
  by_cases h : i < l.length
  · rw [List.getElem?_map, List.getElem?_range h, List.getElem?_eq_getElem h]
    simp [nth, h]
  · rw [List.getElem?_eq_none (by simpa using h), List.getElem?_eq_none (by simpa using h)]
theorem CaR.sumL {c : Cx} {l : List Int} (hl : l.length ≤ 1000) (h : ∀ x ∈ l, 0 ≤ x ∧ x ≤ 1000) : CaR c (.builtin "sum") [.list (l.map .int)] (.int l.sum) := by
  have e1 : l.map AV.int = (List.range l.length).map fun i => .int (nth l (i : Nat)) := by
    conv => lhs; rw [← map_range_nth l]
    rw [List.map_map]; rfl
  have e2 : l.sum = ((List.range l.length).map fun i => nth l (i : Nat)).sum := by rw [map_range_nth]
  rw [e1, e2]
  have hv : ∀ j, j < l.length → 0 ≤ nth l (j : Nat) ∧ nth l (j : Nat) ≤ 1000 := fun j hj => by
    have : nth l (j : Nat) = l[j] := by simp [nth, hj]
    rw [this]; exact h _ (List.getElem_mem hj)
  refine CaR.sum fun j hj => ?_
  have h1 := hv j hj
  have h2 := preSum_b (val := fun i => nth l (i : Nat)) (B := 1000) (by decide) l.length hv (j + 1) (by omega)
  have h3 : ((j + 1 : Nat) : Int) * 1000 ≤ 1000000 := by omega
  unfold InLong
  omega
noncomputable def oddP (p : Int × Int) (pt : Int) : Bool := (p.1 == pt) != (p.2 == pt)
noncomputable def endsK (ps : List (Int × Int)) (pt : Int) : List Nat := (List.range ps.length).filter fun k => oddP (nthP ps (k : Nat)) pt
noncomputable def maskV (ps : List (Int × Int)) (pt : Int) : Nat := ((endsK ps pt).map fun k => 2 ^ k).sum
noncomputable def masksI (ps : List (Int × Int)) : List Int := (List.range 4).map fun (pt : Nat) => (maskV ps (pt : Nat) : Int)
theorem sum_cast : ∀ l : List Nat, (l.map fun k => (1 : Int) * 2 ^ k).sum = ((l.map fun k => 2 ^ k).sum : Nat)
  | [] => rfl
  | x :: l => by
    rw [List.map_cons, List.map_cons, List.sum_cons, List.sum_cons, sum_cast l]
    simp
theorem pow_le {k : Nat} (h : k < 6) : (0 : Int) ≤ 1 * 2 ^ k ∧ (1 : Int) * 2 ^ k ≤ 1000 := by
  match k, h with
  | 0, _ => decide
  | 1, _ => decide
  | 2, _ => decide
  | 3, _ => decide
  | 4, _ => decide
  | 5, _ => decide
noncomputable def endM (m : Nat) : List Int := (bitsTo m 6).map fun (k : Nat) => (k : Int)
noncomputable def endsV (ps : List (Int × Int)) : List (List Int) := (List.range 4).map fun (pt : Nat) => endM (maskV ps (pt : Nat))
noncomputable def chkS (m : Nat) : Bool := (Txt.split (prettyS m) ", " == (bitsTo m 6).map flagName) && decide ((prettyS m).length ≤ 1000000) && decide ((Builtin.Str.partsBetween (prettyS m) (Builtin.Str.occurrences (prettyS m) ", " 0 (prettyS m).length ((prettyS m).length + 1)) (", " : Str).length).length ≤ 1000000)
theorem chkS_all : ((List.range 64).all fun m => m == 0 || chkS m) = true := by decide +kernel
theorem chkS_ok {m : Nat} (h1 : 1 ≤ m) (h2 : m < 64) : chkS m = true := by
  have h := chkS_all
  simp only [List.all_eq_true, List.mem_range, Bool.or_eq_true, beq_iff_eq] at h
  exact (h m h2).resolve_left (by omega)
theorem bitsTo_lt {m i k : Nat} (h : k ∈ bitsTo m i) : k < i := by
  unfold bitsTo at h
  exact List.mem_range.mp (List.mem_filter.mp h).1
section
variable {G : G0} {A : Around} {L : Addr} {s0 : Shared} {cl : List Int} {Post : Flow → Shared → Prop}
set_option maxHeartbeats 16000000 in
theorem law_6 (g : GN G) (rm : Rm (fcL G A L).A 5) {ps : List (Int × Int)} {N : Nat} {txt : Str} {lx : Item} {aL : Addr} (hN : ps.length = N) (hN6 : N ≤ 6) (W : (fcL G A L).Ok)
    (k : ∀ nm, Tri (fcL G A L) (FS (fcL G A L) s0 [("masks", intsA (masksI ps)), ("names", .raw (.ref nm)), ("lexer", .raw (.ref aL)), ("pipes", pipesA ps), ("text", .str txt), ("size", .int (N : Nat))] [Item.plist nm (flagNames.map .str), lx]) ((bodyAt G.w.params 177).drop 8) Post) :
    Tri (fcL G A L) (FS (fcL G A L) s0 [("lexer", .raw (.ref aL)), ("pipes", pipesA ps), ("text", .str txt), ("size", .int (N : Nat))] [lx]) ((bodyAt G.w.params 177).drop 6) Post := by
  conv => arg 3; whnf
  have cP := own_look (C := L) (lawNd G.w.params) (x := "pipes") rfl
  refine Tri.asgP W (xs := flagNames.map .str) (EvP.list (.cons .str (.cons .str (.cons .str (.cons .str (.cons .str (.cons .str .nil))))))) (kd_cell G.w.params L rfl rfl) fun nm => ?_
  refine Tri.asgE W (r := intsA (masksI ps)) ?_ (kd_cell G.w.params L rfl rfl) (k nm)
  unfold masksI intsA
  rw [List.map_map]
  refine EvE.comp0 (n := 4) (f := fun pt => .int (maskV ps (pt : Nat) : Int)) (bs := fun pt => [(("point" : Str), AV.int (pt : Nat))]) (Tg := fun env own P' => Kd env own "point") ?_ (by decide) (of_decide_eq_true (by rfl)) (fun hnd o => free3 (by rfl)) (fun hnd C P' F => Kd.inner hnd rfl (.inr rfl)) fun hnd o C MU pt hpt hT => ?_
  · refine EvG.nm (EvI.range (n := 4) (EvE.name (Has.builtin rfl (g.glob rfl) rfl)) .int (by decide)) (by simp) (fun i => AV.int (i : Nat)) ?_
    intro i hi
    rw [List.getElem?_map, List.getElem?_range hi]; rfl
  · have hs : (((endsK ps (pt : Nat)).map fun k => (1 : Int) * 2 ^ k).sum) = (maskV ps (pt : Nat) : Int) := by rw [sum_cast]; rfl
    rw [← hs]
    refine EvE.call (f := .builtin "sum") (rs := [.list (((endsK ps (pt : Nat)).map fun k => (1 : Int) * 2 ^ k).map .int)]) (EvE.name (Has.builtin rfl (g.glob rfl) rfl)) .builtin (.cons ?_ .nil) (CaR.sumL (by unfold endsK; rw [List.length_map]; exact Nat.le_trans (List.length_filter_le _ _) (by simp; omega)) fun x hx => ?_)
    · rw [List.map_map]
      unfold endsK
      refine EvE.comp1 (n := ps.length) (t := fun k => oddP (nthP ps (k : Nat)) (pt : Nat)) (f := fun k => .int ((1 : Int) * 2 ^ k)) (bs := fun j => [(("b" : Str), AV.int (nthP ps (j : Nat)).2), (("a" : Str), AV.int (nthP ps (j : Nat)).1), (("k" : Str), AV.int (j : Nat))])
        (EvG.enum (xs := ps.map fun p => .tup [.int p.1, .int p.2]) (EvE.name (Has.builtin rfl (g.glob rfl) rfl)) (nF o hnd (CellHas.cel W rfl cP)) (by rw [List.length_map]) (by rw [List.length_map]; omega) (fun j => .tup [.int (nthP ps (j : Nat)).1, .int (nthP ps (j : Nat)).2]) ?_) (by omega) (of_decide_eq_true (by rfl)) (fun hnd2 o2 => free3 (by rfl)) (fun hnd2 C2 P' F j hj => ?_) fun hnd2 o2 C2 MU2 j hj hT2 => ?_
      · intro j hj
        have := pipesA_get (l := ps) (i := (j : Int)) (by omega) (by omega)
        simpa using this
      · exact AsRs.cons F (AsR.name F (Kd.inner hnd2 rfl (.inl rfl))) (AsRs.cons F (AsR.tuple F (AsRs.two F (Kd.inner hnd2 rfl (.inl rfl)) (Kd.inner hnd2 rfl (.inl rfl)))) .nil)
      · refine ⟨EvT.cmp (EvE.cmp (nH hnd2) (nF o2 hnd2 (CellHas.here hnd rfl rfl hT)) .eqI) (EvE.cmp (nH hnd2) (nF o2 hnd2 (CellHas.here hnd rfl rfl hT)) .eqI) .neB, fun _ => EvE.bin .int (nH hnd2) (.shl (b := (j : Int)) (by omega) (by omega) (by decide))⟩
    · obtain ⟨kk, hk, rfl⟩ := List.mem_map.mp hx
      refine pow_le ?_
      unfold endsK at hk
      have := List.mem_range.mp (List.mem_filter.mp hk).1
      omega
end
noncomputable def natAt (l : List Nat) (j : Nat) : Nat := (l[j]?).getD 0
theorem map_range_natAt {α : Type} (l : List Nat) (f : Nat → α) : (List.range l.length).map (fun j => f (natAt l j)) = l.map f := by
  refine List.ext_getElem? fun i => ?_
  by_cases h : i < l.length
  · rw [List.getElem?_map, List.getElem?_range h, List.getElem?_map, List.getElem?_eq_getElem h]
    simp [natAt, h]
  · rw [List.getElem?_eq_none (by simpa using h), List.getElem?_eq_none (by simpa using h)]
theorem natAt_mem {l : List Nat} {j : Nat} (h : j < l.length) : natAt l j ∈ l := by
  have : natAt l j = l[j] := by simp [natAt, h]
  rw [this]; exact List.getElem_mem h
theorem bitsTo_len (m i : Nat) : (bitsTo m i).length ≤ i := by
  unfold bitsTo
  exact Nat.le_trans (List.length_filter_le _ _) (by simp)
section
variable {G : G0} {A : Around} {L : Addr} {s0 : Shared} {cl : List Int} {Post : Flow → Shared → Prop}
set_option maxHeartbeats 16000000 in
theorem law_8 (g : GN G) (rm : Rm (fcL G A L).A 5) {ps : List (Int × Int)} {N : Nat} {txt : Str} {lx : Item} {aL nm : Addr} (hm : ∀ pt : Nat, pt < 4 → 1 ≤ maskV ps (pt : Nat) ∧ maskV ps (pt : Nat) < 64) (W : (fcL G A L).Ok)
    (k : Tri (fcL G A L) (FS (fcL G A L) s0 [("ends", endsA (endsV ps)), ("masks", intsA (masksI ps)), ("lexer", .raw (.ref aL)), ("pipes", pipesA ps), ("text", .str txt), ("size", .int (N : Nat))] [lx]) ((bodyAt G.w.params 177).drop 9) Post) :
    Tri (fcL G A L) (FS (fcL G A L) s0 [("masks", intsA (masksI ps)), ("names", .raw (.ref nm)), ("lexer", .raw (.ref aL)), ("pipes", pipesA ps), ("text", .str txt), ("size", .int (N : Nat))] [Item.plist nm (flagNames.map .str), lx]) ((bodyAt G.w.params 177).drop 8) Post := by
  conv => arg 3; whnf
  have cM := own_look (C := L) (lawNd G.w.params) (x := "masks") rfl
  have cN := own_look (C := L) (lawNd G.w.params) (x := "names") rfl
  refine Tri.asgE W (r := endsA (endsV ps)) ?_ (kd_cell G.w.params L rfl rfl) (Tri.pre k fun s h => ?_)
  · unfold endsA endsV
    rw [List.map_map]
    refine EvE.comp0 (n := 4) (f := fun pt => intsA (endM (maskV ps (pt : Nat)))) (bs := fun pt => [(("mask" : Str), AV.int (maskV ps (pt : Nat) : Int))]) (Tg := fun env own P' => Kd env own "mask") ?_ (by decide) (of_decide_eq_true (by rfl)) (fun hnd o => free3 (by rfl)) (fun hnd C P' F => Kd.inner hnd rfl (.inl rfl)) fun hnd o C MU pt hpt hT => ?_
    · refine EvG.nm (EvI.list (xs := (masksI ps).map .int) (nSC W cM) (by unfold masksI; simp)) (by unfold masksI; simp) (fun i => AV.int (maskV ps (i : Nat) : Int)) ?_
      intro i hi
      unfold masksI
      rw [List.getElem?_map, List.getElem?_map, List.getElem?_range hi]; rfl
    · obtain ⟨m1, m2⟩ := hm pt hpt
      generalize maskV ps (pt : Nat) = m at *
      have chk := chkS_ok m1 m2
      unfold chkS at chk
      simp only [Bool.and_eq_true, decide_eq_true_eq, beq_iff_eq] at chk
      obtain ⟨⟨q1, q2⟩, q3⟩ := chk
      have bl := bitsTo_len m 6
      unfold endM intsA
      rw [List.map_map, ← map_range_natAt]
      refine EvE.comp0 (n := (bitsTo m 6).length) (f := fun j => .int ((natAt (bitsTo m 6) j : Nat) : Int)) (bs := fun j => [(("word" : Str), AV.str (flagName (natAt (bitsTo m 6) j)))]) (Tg := fun env own P' => Kd env own "word") ?_ (by omega) (of_decide_eq_true (by rfl)) (fun hnd o => free3 (by rfl)) (fun hnd C P' F => Kd.inner hnd rfl (.inl rfl)) fun hnd2 o2 C2 MU2 j hj hT2 => ?_
      · refine EvG.nm (EvI.list (xs := (Txt.split (prettyS m) ", ").map .str) ?_ (by rw [q1, List.length_map, List.length_map]; omega)) (by rw [q1]; simp) (fun j => AV.str (flagName (natAt (bitsTo m 6) j))) ?_
        · exact EvE.meth (EvF.ev (EvF.call (f := 85) (k := 5) (rs := [.int (m : Int)]) (res := .str (prettyS m)) (EvE.name (Has.global rfl (g.glob rfl))) (g.get (by rfl : (fr.heap_1 G.w.params).lookup 85 = some (objAt G.w.params 85))) (fd := fdAt G.w.params 85) rfl (.cons (nH hnd) .nil) (fn_pretty g 4 m1 m2) rm)) MeR.split (.cons .str .nil) (CaR.split (by rfl) q2 q3)
        intro j hj
        rw [q1, List.getElem?_map, List.getElem?_map, List.getElem?_eq_getElem hj]
        simp [natAt, hj]
      · exact EvE.names (bitsTo_lt (natAt_mem hj)) (nF o2 hnd2 (CellHas.inner o (CellHas.cel W rfl cN) hnd rfl)) (LHas.inner o2 (map_allS _) (LHas.inner o (map_allS _) (LHas.cs W (map_allS _) (.head _)))) (nH hnd2)
  · refine FS.sub (FS.drop W (FS.sub h (σ' := [("ends", endsA (endsV ps)), ("masks", intsA (masksI ps)), ("lexer", .raw (.ref aL)), ("pipes", pipesA ps), ("text", .str txt), ("size", .int (N : Nat))]) ?_)) ?_
    all_goals simp only [List.mem_cons, or_false, forall_eq_or_imp, forall_eq, List.not_mem_nil]
    all_goals exact ⟨rfl, rfl, rfl, rfl, rfl, rfl⟩
end
noncomputable def ch1 (i j : Nat) : List Int := [(j : Int) + 1, (i : Int) + 1]
noncomputable def choices5 : List (List Int) := (List.range 3).flatMap fun i => (List.range 3).map fun j => ch1 i j
noncomputable def ch2 (i j : Nat) : List Int := nthL choices5 (j : Nat) ++ [(i : Int) + 1]
noncomputable def choices6 : List (List Int) := (List.range 3).flatMap fun i => (List.range 9).map fun j => ch2 i j
noncomputable def choicesN (N : Nat) : List (List Int) := if N = 6 then choices6 else choices5
noncomputable def preC (ch : Nat → Nat → List Int) (n2 i : Nat) : List AV := ((List.range i).flatMap fun i => (List.range n2).map fun j => ch i j).map intsA
theorem preC_succ (ch : Nat → Nat → List Int) (n2 i : Nat) : preC ch n2 (i + 1) = preC ch n2 i ++ (List.range n2).map fun j => intsA (ch i j) := by
  unfold preC
  rw [List.range_succ, List.flatMap_append, List.map_append]
  simp
theorem preC_len (ch : Nat → Nat → List Int) (n2 : Nat) : ∀ i, (preC ch n2 i).length = i * n2
  | 0 => by simp [preC]
  | i + 1 => by rw [preC_succ, List.length_append, preC_len ch n2 i, List.length_map, List.length_range, Nat.succ_mul]
noncomputable def one3 (i : Nat) : AV := .int ((i : Int) + 1)
section
variable {G : G0} {A : Around} {L : Addr} {s0 : Shared} {cl : List Int} {Post : Flow → Shared → Prop}
theorem lk1 {x y : Str} {r r' v : AV} {z : Str} (h : (x == y) = false) : ([(x, r)] : List (Str × AV)).lookup z = some v → ([(y, r')] : List (Str × AV)).lookup z = none := fun e => by
  by_cases q : z = x
  · subst q
    simp [List.lookup, h]
  · have : (z == x) = false := beq_eq_false_iff_ne.mpr q
    simp [List.lookup, this] at e
set_option maxHeartbeats 16000000 in
theorem law_9 (g : GN G) {ps : List (Int × Int)} {N : Nat} {txt : Str} {lx : Item} {aL : Addr} (W : (fcL G A L).Ok)
    (k : Tri (fcL G A L) (FS (fcL G A L) s0 [("choices", endsA (choicesN N)), ("ends", endsA (endsV ps)), ("masks", intsA (masksI ps)), ("lexer", .raw (.ref aL)), ("pipes", pipesA ps), ("text", .str txt), ("size", .int (N : Nat))] [lx]) ((bodyAt G.w.params 177).drop 11) Post) :
    Tri (fcL G A L) (FS (fcL G A L) s0 [("ends", endsA (endsV ps)), ("masks", intsA (masksI ps)), ("lexer", .raw (.ref aL)), ("pipes", pipesA ps), ("text", .str txt), ("size", .int (N : Nat))] [lx]) ((bodyAt G.w.params 177).drop 9) Post := by
  conv => arg 3; whnf
  have cC' := own_look (C := L) (lawNd G.w.params) (x := "choices") rfl
  have cZ := own_look (C := L) (lawNd G.w.params) (x := "size") rfl
  have t3 : ∀ i, i < 3 → ([.int 1, .int 2, .int 3] : List AV)[i]? = some (one3 i) := fun i hi => match i, hi with | 0, _ => rfl | 1, _ => rfl | 2, _ => rfl
  refine Tri.asgE W (r := endsA choices5) ?_ (kd_cell G.w.params L rfl rfl) ?_
  · refine EvE.comp2 (c := cs (fcL G A L) s0 _ _) (n := 3) (n2 := 3) (bs := fun i => [(("b" : Str), one3 i)]) (bs2 := fun i j => [(("c" : Str), one3 j)]) (Tg1 := fun env own P' => Kd env own "b") (Tg2 := fun env own P' => Kd env own "c") (f := fun i j => intsA (ch1 i j)) (preC ch1 3) rfl (preC_succ ch1 3) (fun i hi => by rw [preC_len]; omega) (by decide) (by decide)
      (EvG.nm (EvI.tuple (xs := [.int 1, .int 2, .int 3]) (EvE.tuple (.cons .int (.cons .int (.cons .int .nil)))) (by decide)) rfl one3 t3) (of_decide_eq_true (by rfl)) (fun o => free3 (by rfl)) (fun C P' F => Kd.inner (of_decide_eq_true (by rfl)) rfl (.inl rfl)) (fun C P' F => Kd.inner (of_decide_eq_true (by rfl)) rfl (.inl rfl)) (fun i j x r => lk1 rfl) (fun o C MU i hi hT => EvG.nm (EvI.tuple (xs := [.int 1, .int 2, .int 3]) (EvE.tuple (.cons .int (.cons .int (.cons .int .nil)))) (by decide)) rfl one3 t3)
      (fun o C MU i j hi hj hT => EvE.list (.cons (nH (of_decide_eq_true (by rfl))) (.cons (nH (of_decide_eq_true (by rfl))) .nil)) (show (2 : Nat) ≤ 1000 by decide))
  · refine Tri.if W (x := ((N : Int) == 6)) (EvT.cmp (nC W cZ) .int .eqI) (fun hx => ?_) (fun hx => ?_)
    · have h6 : N = 6 := by have := beq_iff_eq.mp hx; omega
      have k9 : ∀ i, i < 9 → (choices5.map intsA)[i]? = some (intsA (nthL choices5 (i : Nat))) := fun i hi => by
        have := endsA_get (l := choices5) (i := (i : Int)) (by omega) (by rw [show choices5.length = 9 from rfl]; omega)
        simpa using this
      refine Tri.asgE W (r := endsA choices6) ?_ (kd_cell G.w.params L rfl rfl) (Tri.back (Tri.pre k fun s h => FS.sub h ?_))
      · refine EvE.comp2 (c := cs (fcL G A L) s0 _ _) (n := 3) (n2 := 9) (bs := fun i => [(("a" : Str), one3 i)]) (bs2 := fun i j => [(("one" : Str), intsA (nthL choices5 (j : Nat)))]) (Tg1 := fun env own P' => Kd env own "a") (Tg2 := fun env own P' => Kd env own "one") (f := fun i j => intsA (ch2 i j)) (preC ch2 9) rfl (preC_succ ch2 9) (fun i hi => by rw [preC_len]; omega) (by decide) (by decide)
          (EvG.nm (EvI.tuple (xs := [.int 1, .int 2, .int 3]) (EvE.tuple (.cons .int (.cons .int (.cons .int .nil)))) (by decide)) rfl one3 t3) (of_decide_eq_true (by rfl)) (fun o => free3 (by rfl)) (fun C P' F => Kd.inner (of_decide_eq_true (by rfl)) rfl (.inl rfl)) (fun C P' F => Kd.inner (of_decide_eq_true (by rfl)) rfl (.inl rfl)) (fun i j x r => lk1 rfl) (fun o C MU i hi hT => EvG.nm (EvI.list (xs := choices5.map intsA) (nF o (of_decide_eq_true (by rfl)) (CellHas.cel W rfl cC')) (by rw [List.length_map]; decide)) (by rw [List.length_map]; rfl) (fun j => intsA (nthL choices5 (j : Nat))) k9)
          (fun o C MU i j hi hj hT => ?_)
        have : intsA (ch2 i j) = .list ((nthL choices5 (j : Nat)).map AV.int ++ [.int ((i : Int) + 1)]) := by unfold ch2 intsA; rw [List.map_append]; rfl
        rw [this]
        have hl2 : (nthL choices5 (j : Nat)).length ≤ 100 := by
          have : ∀ j, j < 9 → (nthL choices5 (j : Nat)).length ≤ 100 := by decide
          exact this j hj
        exact EvF.ev (EvF.addL (nH (of_decide_eq_true (by rfl))) (EvE.list (.cons (nH (of_decide_eq_true (by rfl))) .nil) (by simp)) (map_all _) rfl (by rw [List.length_map]; simp; omega))
      · unfold choicesN
        rw [if_pos h6]
        simp only [List.mem_cons, or_false, forall_eq_or_imp, forall_eq, List.not_mem_nil]
        exact ⟨rfl, rfl, rfl, rfl, rfl, rfl, rfl⟩
    · have h6 : N ≠ 6 := by intro q; rw [q] at hx; exact absurd hx (by decide)
      refine Tri.back (Tri.pre k fun s h => FS.sub h ?_)
      unfold choicesN
      rw [if_neg h6]
      simp only [List.mem_cons, or_false, forall_eq_or_imp, forall_eq, List.not_mem_nil]
      exact ⟨rfl, rfl, rfl, rfl, rfl, rfl, rfl⟩
end
section
variable {fc : FC} {s0 s s' : Shared} {σ σ' : List (Str × AV)} {β : List Item} {Post : Flow → Shared → Prop} {rest : List Stmt}
theorem FS.big (W : fc.Ok) (h : FS fc s0 σ β s) (x : Kp (Tb ++ FAd fc.env fc.own) s s') (tb : ∀ P : Addr → Prop, (∀ a, P a → a ∉ FAd fc.env fc.own) → (∀ a, s.heap.get? a = none → P a) → fc.G.TO P s.heap → fc.G.TO P s'.heap) (V : Vars fc.env fc.own σ' (PF fc β) s'.heap s'.toks) : FS fc s0 σ' β s' where
  kp := by
    have le' := Nat.le_trans h.kp.le x.le
    obtain ⟨hh, tk, e1⟩ := h.kp.same
    obtain ⟨h', tk', e2⟩ := x.same
    have out : ∀ a ob, a ∉ Tb ++ fc.O → s0.heap.get? a = some ob → a ∉ Tb ++ FAd fc.env fc.own := fun a ob n e q => (List.mem_append.mp q).elim (fun q => n (List.mem_append_left _ q)) fun q => (h.new a (mem_MUs.mpr (.inl q))).elim (fun o => n (List.mem_append_right _ o)) fun q => by rw [q] at e; cases e
    refine ⟨⟨h', tk', by rw [e2, e1]⟩, fun a ob n e => x.keep a ob (out a ob n e) (h.kp.keep a ob n e), fun a ob e => ?_, le'⟩
    obtain ⟨o1, e1⟩ := h.kp.live a ob e
    exact x.live a o1 e1
  tabs := fun P f t => tb _ (fun a p q => p.2 (mem_MUs.mpr (.inl q))) (fun a e => ⟨f a (h.kp.none e), fun q => by obtain ⟨ob, eo⟩ := h.live a q; rw [e] at eo; cases eo⟩) (h.tabs P f t)
  live := fun a ha => let ⟨ob, e⟩ := h.live a ha; x.live a ob e
  new := h.new
  gl0 := h.gl0
  vars := V
  box := fun i hi => i.fr _ _ _ _ _ _ (h.box i hi) (fun b o hb e => x.keep b o (fun q => (List.mem_append.mp q).elim (fun t => hb.elim (fun p => p.1 t) fun p => h.mut W (mem_MUs.mpr (.inr ⟨i, hi, p⟩)) t) fun q => hb.elim (fun p => p.2 (mem_MUs.mpr (.inl q))) fun p => h.offF i hi b p q) e) (fun b o p _ => p) x.le
  sep := h.sep
  offF := h.offF
theorem Tri.asgComp (W : fc.Ok) {y : Str} {py : Pos} {elt target iter : Expr} {ifs : List Expr} {scope : Scope} {pos spos : Pos} {n : Nat} {bs : Nat → List (Str × AV)} {Tg : Env → List (Str × Addr) → (Addr → Prop) → Prop} {t : Nat → Bool} {f : Nat → AV}
    (hi : EvG (cs fc s0 σ β) iter target n bs Tg) (k : CompOk (cs fc s0 σ β) elt target ifs scope n bs Tg t f) (hy : fc.env.kindOf y = some .local) (kk : Tri fc (FS fc s0 ((y, .list (((List.range n).filter t).map f)) :: σ) β) rest Post)
    (hsw : swapsWith (.ListComp elt [⟨target, iter, ifs, 0⟩] scope pos) (some (.Name y py)) spos.line fc.env = pure true := by rfl) (hs : ∀ x, foldedSetIterable iter fc.env x = pure x := by intro _; rfl) :
    Tri fc (FS fc s0 σ β) (.Assign [.Name y py] (.ListComp elt [⟨target, iter, ifs, 0⟩] scope pos) spos :: rest) Post := Tri.st fun E s h0 => by
  have o := cs_ok (s0 := s0) (σ := σ) (β := β) W
  rw [exec_Assign_Name_used _ _ _ _ hsw]
  refine wpAny_bind (wpAny_standAt (wpAny_bind ?_))
  show wpAny _ fc.A (do let _ ← comprehension (.ListComp elt [⟨target, iter, ifs, 0⟩] scope pos) scope fc.env _ (newList []) false (eval iter fc.env) (some (assign (.Name y py) fc.env))) _ _ s
  refine wpAny_bind (wpAny_mono (wpAny_comprehension_free (use := some (assign (.Name y py) fc.env)) (Q := fun _ s' => Sq fc rest Post .next s') rfl hs (closure_eq (k.hfree o)) k.hk k.names ?_) (fun _ s' hq => wpAny_pure (wpAny_pure hq)) fun _ _ e => e)
  refine hi o s _ _ h0 fun I fp wr St s2 it => ?_
  refine comp_core (c := cs fc s0 σ β) (RR := fun acc C => compPost (model fc.G.prog fc.G.w) fc.A E (some (assign (.Name y py) fc.env)) (fun _ s' => Sq fc rest Post .next s') acc C) o k.hk k.hnd k.htg (k.hb o) h0 it k.hn ?_
  rintro D C s' vs hD hC hDC x hl hv ⟨m, hm⟩ hDo htab
  have liveC : ∀ {b ob}, s.heap.get? b = some ob → b ≠ C := fun {b ob} e q => by rw [q, hC] at e; cases e
  have CT : C ∉ Tb := o.pt C (o.fresh s C h0 hC)
  have fC : ∀ b ∈ FAd fc.env fc.own, b ≠ C := fun b q => by obtain ⟨ob, e⟩ := h0.live b (mem_MUs.mpr (.inl q)); exact liveC e
  have FF : FOk fc.env fc.own (fun a => PF fc β a ∧ a ≠ C) := W.Fb.sub fun a p => p.1
  have V1 : Vars fc.env fc.own σ (fun a => PF fc β a ∧ a ≠ C) s'.heap s'.toks := h0.vars.up (fun b ob p e => x.keep b ob (p.elim (fun p => p.1) fun q => (W.F.off b q).2) e) (fun a ob p e => ⟨p, liveC e⟩) x.le
  have hvr : VR s'.heap s'.toks (fun a => PF fc β a ∧ a ≠ C) (.list (((List.range n).filter t).map f)) (.ref D) := .list ⟨FS.fresh W h0 hD, hDC⟩ hl (hv.mono (fun _ _ _ e => e) fun b p => ⟨p.1, p.2.2⟩)
  show wpAny _ fc.A (assign (.Name y py) fc.env (.ref D)) _ _ _
  refine wpAny_assign_Name (V1.store FF (.inl hy) hvr fun s'' V2 K2 => ?_)
  have hm2 : s''.heap.Ns C m := hm.at' fun ob e => K2.keep C ob (fun q => fC C q rfl) e
  refine ⟨m, hm2, fun h' hsb => ?_⟩
  refine fun E' => kk E' _ (FS.big W h0 (s' := { s'' with heap := h' }) ?_ (fun P hP fr tt => ?_) ?_)
  · have le' := Nat.le_trans x.le K2.le
    obtain ⟨h1, tk1, e1⟩ := x.same
    obtain ⟨h2, tk2, e2⟩ := K2.same
    refine ⟨⟨h', tk2, by rw [e2, e1]⟩, fun a ob n e => hsb.extBut a ob (liveC e) (K2.keep a ob (fun q => n (List.mem_append_right _ q)) (x.keep a ob (fun q => n (List.mem_append_left _ q)) e)), fun a ob e => ?_, le'⟩
    obtain ⟨o1, e1⟩ := x.live a ob e
    obtain ⟨o2, e2⟩ := K2.live a o1 e1
    exact ⟨o2, hsb.extBut a o2 (liveC e) e2⟩
  · refine W.g.tmono _ _ _ (W.g.tok _ _ _ (htab P fr tt) fun a ob p e => ?_) fun a _ p _ => p.1
    refine hsb.extBut a ob (p.elim (fun p => p.2.2) fun t q => CT (q ▸ t)) (K2.keep a ob (p.elim (fun p => hP a p.1) fun t q => (W.F.off a q).2 t) e)
  · exact (V2.keep fun b ob p e => hsb.extBut b ob (p.elim (fun p => p.2) fun q => fC b q) e).up (fun _ _ _ e => e) fun a _ p _ => p.1
theorem Tri.asgComp0 (W : fc.Ok) {y : Str} {py : Pos} {elt target iter : Expr} {scope : Scope} {pos spos : Pos} {n : Nat} {bs : Nat → List (Str × AV)} {Tg : Env → List (Str × Addr) → (Addr → Prop) → Prop} {f : Nat → AV}
    (hi : EvG (cs fc s0 σ β) iter target n bs Tg) (hn : n ≤ 1000000) (hnd : (scope.names.map Prod.fst).Nodup)
    (hfree : (scope.names.map Prod.fst).Nodup → (cs fc s0 σ β).Ok → ∀ p ∈ scope.names, p.2 = .free → (fc.env.cells.lookup p.1).isSome = true)
    (htg : (scope.names.map Prod.fst).Nodup → ∀ C P', FOk (innerEnv fc.env scope C) (ownOf scope C) P' → Tg (innerEnv fc.env scope C) (ownOf scope C) P')
    (hb : (scope.names.map Prod.fst).Nodup → (cs fc s0 σ β).Ok → ∀ C MU i, i < n → (∀ a ∈ (ownOf scope C).map (·.2), a ∉ Tb) → EvE ((cs fc s0 σ β).inner scope C MU (bs i)) elt (f i))
    (hy : fc.env.kindOf y = some .local) (kk : Tri fc (FS fc s0 ((y, .list ((List.range n).map f)) :: σ) β) rest Post)
    (hsw : swapsWith (.ListComp elt [⟨target, iter, [], 0⟩] scope pos) (some (.Name y py)) spos.line fc.env = pure true := by rfl) (hk : scope.kind = .function := by rfl) (hs : ∀ x, foldedSetIterable iter fc.env x = pure x := by intro _; rfl) :
    Tri fc (FS fc s0 σ β) (.Assign [.Name y py] (.ListComp elt [⟨target, iter, [], 0⟩] scope pos) spos :: rest) Post := by
  refine Tri.asgComp W (t := fun _ => true) (f := f) hi ⟨hn, hk, hnd, hfree hnd, htg hnd, fun o C MU i hi ha => ⟨.nil, fun _ => hb hnd o C MU i hi ha⟩⟩ hy ?_ hsw hs
  rwa [List.filter_eq_self.mpr (by simp)]
theorem Tri.asgComp1 (W : fc.Ok) {y : Str} {py : Pos} {elt target iter e : Expr} {scope : Scope} {pos spos : Pos} {n : Nat} {bs : Nat → List (Str × AV)} {Tg : Env → List (Str × Addr) → (Addr → Prop) → Prop} {t : Nat → Bool} {f : Nat → AV}
    (hi : EvG (cs fc s0 σ β) iter target n bs Tg) (hn : n ≤ 1000000) (hnd : (scope.names.map Prod.fst).Nodup)
    (hfree : (scope.names.map Prod.fst).Nodup → (cs fc s0 σ β).Ok → ∀ p ∈ scope.names, p.2 = .free → (fc.env.cells.lookup p.1).isSome = true)
    (htg : (scope.names.map Prod.fst).Nodup → ∀ C P', FOk (innerEnv fc.env scope C) (ownOf scope C) P' → Tg (innerEnv fc.env scope C) (ownOf scope C) P')
    (hb : (scope.names.map Prod.fst).Nodup → (cs fc s0 σ β).Ok → ∀ C MU i, i < n → (∀ a ∈ (ownOf scope C).map (·.2), a ∉ Tb) → EvT ((cs fc s0 σ β).inner scope C MU (bs i)) e (t i) ∧ (t i = true → EvE ((cs fc s0 σ β).inner scope C MU (bs i)) elt (f i)))
    (hy : fc.env.kindOf y = some .local) (kk : Tri fc (FS fc s0 ((y, .list (((List.range n).filter t).map f)) :: σ) β) rest Post)
    (hsw : swapsWith (.ListComp elt [⟨target, iter, [e], 0⟩] scope pos) (some (.Name y py)) spos.line fc.env = pure true := by rfl) (hk : scope.kind = .function := by rfl) (hs : ∀ x, foldedSetIterable iter fc.env x = pure x := by intro _; rfl) :
    Tri fc (FS fc s0 σ β) (.Assign [.Name y py] (.ListComp elt [⟨target, iter, [e], 0⟩] scope pos) spos :: rest) Post :=
  Tri.asgComp W (t := t) (f := f) hi ⟨hn, hk, hnd, hfree hnd, htg hnd, fun o C MU i hi ha => ⟨.one (hb hnd o C MU i hi ha).1, (hb hnd o C MU i hi ha).2⟩⟩ hy kk hsw hs
end
noncomputable def figV (one : List Int) : List Int := (List.range one.length).map fun (k : Nat) => nth one (k : Nat) * 2 ^ ((2 : Int) * (k : Int)).toNat
noncomputable def chkCut (one : List Int) : Bool := decide (0 ≤ lenD (figV one).sum 2) && decide (lenD (figV one).sum 2 ≤ 1000000) && (if (figV one).sum != 0 then okI 3 (figV one).sum 2 0 (lenD (figV one).sum 2) (lenD (figV one).sum 2).toNat else true) && (i2d 3 (figV one).sum 2 == one) && (figV one).all (fun x => decide (0 ≤ x) && decide (x ≤ 1000)) && decide (one.length ≤ 3) && one.all (fun x => decide (1 ≤ x) && decide (x ≤ 3))
theorem chkCut_all : (choices5.all chkCut && choices6.all chkCut) = true := by decide +kernel
theorem chkCut_ok {N : Nat} {one : List Int} (h : one ∈ choicesN N) : chkCut one = true := by
  have h0 := chkCut_all
  simp only [Bool.and_eq_true, List.all_eq_true] at h0
  unfold choicesN at h
  split at h
  · exact h0.2 _ h
  · exact h0.1 _ h
theorem choicesN_len (N : Nat) : (choicesN N).length ≤ 27 := by
  unfold choicesN
  split
  · decide
  · decide
theorem nthL_mem {l : List (List Int)} {i : Nat} (h : i < l.length) : nthL l (i : Nat) ∈ l := by
  have : nthL l (i : Nat) = l[i] := by simp [nthL, h]
  rw [this]; exact List.getElem_mem h
theorem map_range_nthL {α : Type} (l : List (List Int)) (f : List Int → α) : (List.range l.length).map (fun j => f (nthL l (j : Nat))) = l.map f := by
  refine List.ext_getElem? fun i => ?_
  by_cases h : i < l.length
  · rw [List.getElem?_map, List.getElem?_range h, List.getElem?_map, List.getElem?_eq_getElem h]
    simp [nthL, h]
  · rw [List.getElem?_eq_none (by simpa using h), List.getElem?_eq_none (by simpa using h)]
noncomputable def bitK (m : Nat) (k : Nat) : Bool := Builtin.bitAnd ((m : Int).fdiv (2 ^ ((k : Int)).toNat)) 1 != 0
theorem bitK_all : (([5, 6] : List Nat).all fun N => (List.range (2 ^ N)).all fun m => (List.range N).filter (bitK m) == bitsTo m 6) = true := by decide +kernel
theorem bitK_ok {N m : Nat} (hN : N = 5 ∨ N = 6) (hm : m < 2 ^ N) : (List.range N).filter (bitK m) = bitsTo m 6 := by
  have h := bitK_all
  simp only [List.all_eq_true, List.mem_range, beq_iff_eq] at h
  exact h N (by rcases hN with rfl | rfl <;> simp) m hm
theorem pl2_ends (l : List (List Int)) : (l.map intsA).all isPl2 = true := by
  simp only [List.all_eq_true, List.mem_map]
  rintro x ⟨y, _, rfl⟩
  show (y.map AV.int).all isPl = true
  simp [List.all_eq_true, isPl]
section
variable {G : G0} {A : Around} {L : Addr} {s0 : Shared} {cl : List Int} {Post : Flow → Shared → Prop}
set_option maxHeartbeats 16000000 in
theorem law_11 (g : GN G) (rm : Rm (fcL G A L).A 5) {ps : List (Int × Int)} {N : Nat} {txt : Str} {lx : Item} {aL : Addr} (hN : N = 5 ∨ N = 6) (hm : ∀ pt : Nat, pt < 4 → maskV ps (pt : Nat) < 2 ^ N) (W : (fcL G A L).Ok)
    (k : Tri (fcL G A L) (FS (fcL G A L) s0 [("cut", endsA (choicesN N)), ("choices", endsA (choicesN N)), ("ends", endsA (endsV ps)), ("masks", intsA (masksI ps)), ("lexer", .raw (.ref aL)), ("pipes", pipesA ps), ("text", .str txt), ("size", .int (N : Nat))] [lx]) ((bodyAt G.w.params 177).drop 13) Post) :
    Tri (fcL G A L) (FS (fcL G A L) s0 [("choices", endsA (choicesN N)), ("ends", endsA (endsV ps)), ("masks", intsA (masksI ps)), ("lexer", .raw (.ref aL)), ("pipes", pipesA ps), ("text", .str txt), ("size", .int (N : Nat))] [lx]) ((bodyAt G.w.params 177).drop 11) Post := by
  conv => arg 3; whnf
  have cCh := own_look (C := L) (lawNd G.w.params) (x := "choices") rfl
  have cZ := own_look (C := L) (lawNd G.w.params) (x := "size") rfl
  have cM := own_look (C := L) (lawNd G.w.params) (x := "masks") rfl
  have cE := own_look (C := L) (lawNd G.w.params) (x := "ends") rfl
  have hcl := choicesN_len N
  have hat : ∀ i, i < (choicesN N).length → ((choicesN N).map intsA)[i]? = some (intsA (nthL (choicesN N) (i : Nat))) := fun i hi => by
    have := endsA_get (l := choicesN N) (i := (i : Int)) (by omega) (by omega)
    simpa using this
  have k' : Tri (fcL G A L) (FS (fcL G A L) s0 [("cut", .list ((List.range (choicesN N).length).map fun (j : Nat) => intsA (nthL (choicesN N) (j : Nat)))), ("choices", endsA (choicesN N)), ("ends", endsA (endsV ps)), ("masks", intsA (masksI ps)), ("lexer", .raw (.ref aL)), ("pipes", pipesA ps), ("text", .str txt), ("size", .int (N : Nat))] [lx]) ((bodyAt G.w.params 177).drop 12) Post := by
    rw [map_range_nthL]
    conv => arg 3; whnf
    refine Tri.if W (x := false || false) (EvT.or (EvT.cmp (nL W) (nC W cCh) (CmR.neLL (pl2_ends _))) fun _ => EvT.or1 (EvT.cmp (nC W cE) (r2 := endsA (endsV ps)) ?_ (CmR.neLL (pl2_ends _)))) (fun hx => nomatch hx) (fun hx => Tri.back k)
    unfold endsA endsV
    rw [List.map_map]
    refine EvE.comp0 (n := 4) (f := fun pt => intsA (endM (maskV ps (pt : Nat)))) (bs := fun pt => [(("mask" : Str), AV.int (maskV ps (pt : Nat) : Int))]) (Tg := fun env own P' => Kd env own "mask") ?_ (by decide) (of_decide_eq_true (by rfl)) (fun hnd o => free3 (by rfl)) (fun hnd C P' F => Kd.inner hnd rfl (.inr rfl)) fun hnd o C MU pt hpt hT => ?_
    · refine EvG.nm (EvI.list (xs := (masksI ps).map .int) (nC W cM) (by unfold masksI; simp)) (by unfold masksI; simp) (fun i => AV.int (maskV ps (i : Nat) : Int)) ?_
      intro i hi
      unfold masksI
      rw [List.getElem?_map, List.getElem?_map, List.getElem?_range hi]; rfl
    · have hm2 := hm pt hpt
      generalize maskV ps (pt : Nat) = m at *
      unfold endM intsA
      rw [← bitK_ok hN hm2, List.map_map]
      refine EvE.comp1 (n := N) (t := bitK m) (f := fun k => .int (k : Nat)) (bs := fun k => [(("k" : Str), AV.int (k : Nat))]) (Tg := fun env own P' => Kd env own "k") (EvG.nm (EvI.range (n := N) (EvE.name (Has.builtin rfl (g.glob rfl) rfl)) (nF o hnd (cC W cZ)) (by omega)) (by simp) (fun i => AV.int (i : Nat)) (fun i hi => by rw [List.getElem?_map, List.getElem?_range hi]; rfl)) (by omega) (of_decide_eq_true (by rfl)) (fun hnd2 o2 => free3 (by rfl)) (fun hnd2 C2 P' F => Kd.inner hnd2 rfl (.inl rfl)) fun hnd2 o2 C2 MU2 k hk hT2 => ?_
      exact ⟨EvT.plain (EvE.bin (EvE.bin (nF o2 hnd2 (CellHas.here hnd rfl rfl hT)) (nH hnd2) (.shr (by omega))) .int .band) TrR.int, fun _ => nH hnd2⟩
  conv at k' => arg 3; whnf
  refine Tri.asgComp0 W (n := (choicesN N).length) (f := fun j => intsA (nthL (choicesN N) (j : Nat))) (bs := fun j => [(("one" : Str), intsA (nthL (choicesN N) (j : Nat)))]) (Tg := fun env own P' => Kd env own "one") ?_ (by omega) (of_decide_eq_true (by rfl)) (fun hnd o => free3 (by rfl)) (fun hnd C P' F => Kd.inner hnd rfl (.inl rfl)) (fun hnd o C MU j hj hT => ?_) rfl k'
  · exact EvG.nm (EvI.list (xs := (choicesN N).map intsA) (nSC W cCh) (by rw [List.length_map]; omega)) (by rw [List.length_map]) (fun j => intsA (nthL (choicesN N) (j : Nat))) hat
  · have chk := chkCut_ok (nthL_mem hj)
    generalize nthL (choicesN N) (j : Nat) = one at *
    unfold chkCut at chk
    simp only [Bool.and_eq_true, decide_eq_true_eq, beq_iff_eq, List.all_eq_true] at chk
    obtain ⟨⟨⟨⟨⟨⟨q1, q2⟩, q3⟩, q4⟩, q5⟩, q6⟩, q7⟩ := chk
    have hi2 := fn_i2d g 3 (a := (figV one).sum) (n := 2) (by decide +kernel) (by decide) (by decide) q1 q2 q3
    rw [q4] at hi2
    refine EvF.ev (EvF.call (f := 42) (k := 4) (rs := [.int (figV one).sum, .int 2]) (EvE.name (Has.global rfl (g.glob rfl))) (g.get (by rfl : (fr.heap_1 G.w.params).lookup 42 = some (objAt G.w.params 42))) (fd := fdAt G.w.params 42) rfl (.cons ?_ (.cons .int .nil)) hi2 (rm.le (by decide)))
    refine EvE.call (f := .builtin "sum") (rs := [.list ((figV one).map .int)]) (EvE.name (Has.builtin rfl (g.glob rfl) rfl)) .builtin (.cons ?_ .nil) (CaR.sumL (by unfold figV; rw [List.length_map, List.length_range]; omega) q5)
    unfold figV
    rw [List.map_map]
    refine EvE.comp0 (n := one.length) (f := fun k => .int (nth one (k : Nat) * 2 ^ ((2 : Int) * (k : Int)).toNat)) (bs := fun k => [(("figure" : Str), AV.int (nth one (k : Nat))), (("k" : Str), AV.int (k : Nat))])
      (EvG.enum (xs := one.map .int) (EvE.name (Has.builtin rfl (g.glob rfl) rfl)) (nH hnd) (by rw [List.length_map]) (by rw [List.length_map]; omega) (fun k => .int (nth one (k : Nat))) (fun k hk => ?_)) (by omega) (of_decide_eq_true (by rfl)) (fun hnd2 o2 => free3 (by rfl)) (fun hnd2 C2 P' F k hk => AsRs.two F (Kd.inner hnd2 rfl (.inl rfl)) (Kd.inner hnd2 rfl (.inl rfl))) fun hnd2 o2 C2 MU2 k hk hT2 => ?_
    · have := intsA_get (l := one) (i := (k : Int)) (by omega) (by omega)
      simpa using this
    · have hx : nth one (k : Nat) ∈ one := by
        have : nth one (k : Nat) = one[k] := by simp [nth, hk]
        rw [this]; exact List.getElem_mem hk
      have := q7 _ hx
      exact EvE.bin (nH hnd2) (EvE.bin .int (nH hnd2) (.mul (.of_right (by
        have h3 : k = 0 ∨ k = 1 ∨ k = 2 := by omega
        rcases h3 with h | h | h <;> rw [h] <;> decide +kernel)))) (.shl (by omega) (by omega) (by omega))
end
theorem quarters_01 (ps es ch) : 0 ≤ quarters ps es ch ∧ quarters ps es ch ≤ 1000 := by
  unfold quarters; split
  · decide
  · split <;> decide
theorem colours_01 (es ch) : 0 ≤ colours es ch ∧ colours es ch ≤ 1000 := by
  unfold colours; split
  · decide
  · split <;> decide
theorem plain_01 (ps ch) : 0 ≤ plain ps ch ∧ plain ps ch ≤ 1000 := by
  unfold plain; split <;> decide
theorem nthL_endsV (ps : List (Int × Int)) {pt : Int} (h0 : 0 ≤ pt) (h1 : pt < 4) : nthL (endsV ps) pt = endM (maskV ps pt) := by
  have : pt = 0 ∨ pt = 1 ∨ pt = 2 ∨ pt = 3 := by omega
  rcases this with rfl | rfl | rfl | rfl <;> rfl
theorem wf_endsV {ps : List (Int × Int)} {N : Nat} (hl : ps.length = N) (hN : N = 5 ∨ N = 6) (hm : ∀ pt : Nat, pt < 4 → maskV ps (pt : Nat) < 2 ^ N) : Wf ps (endsV ps) where
  l0 := by omega
  l1 := by omega
  le := rfl
  en := fun pt h0 h1 => by
    rw [nthL_endsV ps h0 h1]
    have hm' : maskV ps pt < 2 ^ N := by
      have := hm pt.toNat (by omega)
      rwa [Int.toNat_of_nonneg h0] at this
    have hb := bitsTo_len (maskV ps pt) 6
    refine ⟨by unfold endM; rw [List.length_map]; omega, fun i hi => ?_⟩
    have hx : nth (endM (maskV ps pt)) (i : Nat) ∈ endM (maskV ps pt) := by
      have : nth (endM (maskV ps pt)) (i : Nat) = (endM (maskV ps pt))[i] := by simp [nth, hi]
      rw [this]; exact List.getElem_mem hi
    unfold endM at hx
    obtain ⟨k, hk, e⟩ := List.mem_map.mp hx
    rw [← bitK_ok hN hm'] at hk
    have := List.mem_range.mp (List.mem_filter.mp hk).1
    unfold endM
    rw [← e]
    omega
theorem map_sumArg (l : List (List Int)) (q : List Int → Int) : (l.map q).map AV.int = (List.range l.length).map fun (j : Nat) => AV.int (q (nthL l (j : Nat))) := by
  rw [List.map_map, ← map_range_nthL]; rfl
theorem chLen_all : (choices5.all fun c => c.length == 2) = true ∧ (choices6.all fun c => c.length == 3) = true := by decide +kernel
theorem chLen {N : Nat} (hN : N = 5 ∨ N = 6) {one : List Int} (h : one ∈ choicesN N) : one.length + 3 = N := by
  have h0 := chLen_all
  simp only [List.all_eq_true, beq_iff_eq] at h0
  unfold choicesN at h
  split at h
  · have := h0.2 _ h; omega
  · have := h0.1 _ h; omega
theorem chSm {N : Nat} {one : List Int} (h : one ∈ choicesN N) : Sm one := by
  have chk := chkCut_ok h
  unfold chkCut at chk
  simp only [Bool.and_eq_true, decide_eq_true_eq, List.all_eq_true] at chk
  intro x hx
  have := chk.2 x hx
  omega
section
variable {G : G0} {A : Around} {L : Addr} {s0 : Shared} {cl : List Int} {Post : Flow → Shared → Prop}
set_option maxHeartbeats 16000000 in
theorem law_13 (g : GN G) (rm : Rm (fcL G A L).A 9) {ps : List (Int × Int)} {N : Nat} {txt : Str} {lx : Item} {aL : Addr} (hl : ps.length = N) (hN : N = 5 ∨ N = 6) (hm : ∀ pt : Nat, pt < 4 → maskV ps (pt : Nat) < 2 ^ N) (W : (fcL G A L).Ok)
    (k : Tri (fcL G A L) (FS (fcL G A L) s0 [("plain", .int ((choicesN N).map fun ch => plain ps ch).sum), ("colours", .int ((choicesN N).map fun ch => colours (endsV ps) ch).sum), ("quarters", .int ((choicesN N).map fun ch => quarters ps (endsV ps) ch).sum), ("masks", intsA (masksI ps)), ("lexer", .raw (.ref aL)), ("text", .str txt)] [lx]) ((bodyAt G.w.params 177).drop 16) Post) :
    Tri (fcL G A L) (FS (fcL G A L) s0 [("cut", endsA (choicesN N)), ("choices", endsA (choicesN N)), ("ends", endsA (endsV ps)), ("masks", intsA (masksI ps)), ("lexer", .raw (.ref aL)), ("pipes", pipesA ps), ("text", .str txt), ("size", .int (N : Nat))] [lx]) ((bodyAt G.w.params 177).drop 13) Post := by
  conv => arg 3; whnf
  have cCh := own_look (C := L) (lawNd G.w.params) (x := "choices") rfl
  have cE := own_look (C := L) (lawNd G.w.params) (x := "ends") rfl
  have cP := own_look (C := L) (lawNd G.w.params) (x := "pipes") rfl
  have hcl := choicesN_len N
  have w := wf_endsV hl hN hm
  have hat : ∀ i, i < (choicesN N).length → ((choicesN N).map intsA)[i]? = some (intsA (nthL (choicesN N) (i : Nat))) := fun i hi => by
    have := endsA_get (l := choicesN N) (i := (i : Int)) (by omega) (by omega)
    simpa using this
  have hal : ∀ one ∈ choicesN N, one.length + 3 = ps.length := fun one h => by rw [hl]; exact chLen hN h
  refine Tri.asgA W (r := .int ((choicesN N).map fun ch => quarters ps (endsV ps) ch).sum) (EvE.call (f := .builtin "sum") (rs := [.list (((choicesN N).map fun ch => quarters ps (endsV ps) ch).map .int)]) (EvE.name (Has.builtin rfl (g.glob rfl) rfl)) .builtin (.cons ?_ .nil) (CaR.sumL (by rw [List.length_map]; omega) fun x hx => ?_)) rfl (.inl rfl) ?_
  · rw [map_sumArg]
    refine EvE.comp0 (n := (choicesN N).length) (f := fun j => .int (quarters ps (endsV ps) (nthL (choicesN N) (j : Nat)))) (bs := fun j => [(("chosen" : Str), intsA (nthL (choicesN N) (j : Nat)))]) (Tg := fun env own P' => Kd env own "chosen") (EvG.nm (EvI.list (xs := (choicesN N).map intsA) (nL W) (by rw [List.length_map]; omega)) (by rw [List.length_map]) (fun j => intsA (nthL (choicesN N) (j : Nat))) hat) (by omega) (of_decide_eq_true (by rfl)) (fun hnd o => free3 (by rfl)) (fun hnd C P' F => Kd.inner hnd rfl (.inl rfl)) fun hnd o C MU j hj hT => ?_
    exact EvF.ev (EvF.call (f := 146) (k := 9) (rs := [pipesA ps, endsA (endsV ps), intsA (nthL (choicesN N) (j : Nat))]) (EvE.name (Has.global rfl (g.glob rfl))) (g.get (by rfl : (fr.heap_1 G.w.params).lookup 146 = some (objAt G.w.params 146))) (fd := fdAt G.w.params 146) rfl (.cons (nF o hnd (cC W cP)) (.cons (nF o hnd (cC W cE)) (.cons (nH hnd) .nil))) (fn_q g w (chSm (nthL_mem hj)) (hal _ (nthL_mem hj))) rm)
  · obtain ⟨ch, _, rfl⟩ := List.mem_map.mp hx
    exact quarters_01 _ _ _
  refine Tri.asgA W (r := .int ((choicesN N).map fun ch => colours (endsV ps) ch).sum) (EvE.call (f := .builtin "sum") (rs := [.list (((choicesN N).map fun ch => colours (endsV ps) ch).map .int)]) (EvE.name (Has.builtin rfl (g.glob rfl) rfl)) .builtin (.cons ?_ .nil) (CaR.sumL (by rw [List.length_map]; omega) fun x hx => ?_)) rfl (.inl rfl) ?_
  · rw [map_sumArg]
    refine EvE.comp0 (n := (choicesN N).length) (f := fun j => .int (colours (endsV ps) (nthL (choicesN N) (j : Nat)))) (bs := fun j => [(("chosen" : Str), intsA (nthL (choicesN N) (j : Nat)))]) (Tg := fun env own P' => Kd env own "chosen") (EvG.nm (EvI.list (xs := (choicesN N).map intsA) (nL W) (by rw [List.length_map]; omega)) (by rw [List.length_map]) (fun j => intsA (nthL (choicesN N) (j : Nat))) hat) (by omega) (of_decide_eq_true (by rfl)) (fun hnd o => free3 (by rfl)) (fun hnd C P' F => Kd.inner hnd rfl (.inl rfl)) fun hnd o C MU j hj hT => ?_
    exact EvF.ev (EvF.call (f := 158) (k := 9) (rs := [endsA (endsV ps), intsA (nthL (choicesN N) (j : Nat))]) (EvE.name (Has.global rfl (g.glob rfl))) (g.get (by rfl : (fr.heap_1 G.w.params).lookup 158 = some (objAt G.w.params 158))) (fd := fdAt G.w.params 158) rfl (.cons (nF o hnd (cC W cE)) (.cons (nH hnd) .nil)) (fn_col g w (hal _ (nthL_mem hj))) rm)
  · obtain ⟨ch, _, rfl⟩ := List.mem_map.mp hx
    exact colours_01 _ _
  refine Tri.asgA W (r := .int ((choicesN N).map fun ch => plain ps ch).sum) (EvE.call (f := .builtin "sum") (rs := [.list (((choicesN N).map fun ch => plain ps ch).map .int)]) (EvE.name (Has.builtin rfl (g.glob rfl) rfl)) .builtin (.cons ?_ .nil) (CaR.sumL (by rw [List.length_map]; omega) fun x hx => ?_)) rfl (.inl rfl) ?_
  · rw [map_sumArg]
    refine EvE.comp0 (n := (choicesN N).length) (f := fun j => .int (plain ps (nthL (choicesN N) (j : Nat)))) (bs := fun j => [(("chosen" : Str), intsA (nthL (choicesN N) (j : Nat)))]) (Tg := fun env own P' => Kd env own "chosen") (EvG.nm (EvI.list (xs := (choicesN N).map intsA) (nC W cCh) (by rw [List.length_map]; omega)) (by rw [List.length_map]) (fun j => intsA (nthL (choicesN N) (j : Nat))) hat) (by omega) (of_decide_eq_true (by rfl)) (fun hnd o => free3 (by rfl)) (fun hnd C P' F => Kd.inner hnd rfl (.inl rfl)) fun hnd o C MU j hj hT => ?_
    exact EvF.ev (EvF.call (f := 165) (k := 9) (rs := [pipesA ps, intsA (nthL (choicesN N) (j : Nat))]) (EvE.name (Has.global rfl (g.glob rfl))) (g.get (by rfl : (fr.heap_1 G.w.params).lookup 165 = some (objAt G.w.params 165))) (fd := fdAt G.w.params 165) rfl (.cons (nF o hnd (cC W cP)) (.cons (nH hnd) .nil)) (fn_pl g (by omega) (by omega) (hal _ (nthL_mem hj))) rm)
  · obtain ⟨ch, _, rfl⟩ := List.mem_map.mp hx
    exact plain_01 _ _
  refine Tri.pre k fun s h => FS.sub h ?_
  simp only [List.mem_cons, or_false, forall_eq_or_imp, forall_eq, List.not_mem_nil]
  exact ⟨rfl, rfl, rfl, rfl, rfl, rfl⟩
end
noncomputable def cutsV (ps : List (Int × Int)) : List Nat := (List.range 4).map (fun (pt : Nat) => maskV ps (pt : Nat)) ++ (List.range 3).map (fun i => maskV ps ((0 : Nat) : Int) ^^^ maskV ps ((i + 1 : Nat) : Int))
theorem xor_all : ((List.range 64).all fun a => (List.range 64).all fun b => Builtin.bitXor (a : Int) (b : Int) == ((a ^^^ b : Nat) : Int)) = true := by decide +kernel
theorem xor_ok {a b : Nat} (ha : a < 64) (hb : b < 64) : Builtin.bitXor (a : Int) (b : Int) = ((a ^^^ b : Nat) : Int) := by
  have h := xor_all
  simp only [List.all_eq_true, List.mem_range, beq_iff_eq] at h
  exact h a ha b hb
noncomputable def oneB (m : Nat) : Bool := (((bitsTo m 6).length : Nat) : Int) == 1
noncomputable def aloneB (ps : List (Int × Int)) : Bool := (cutsV ps).any oneB
theorem alone_eq (l : List Nat) : (!((((List.range l.length).filter fun i => oneB (natAt l i)).map fun i => AV.int ((natAt l i : Nat) : Int)).isEmpty)) = l.any oneB := by
  rw [Bool.eq_iff_iff]
  simp only [Bool.not_eq_true', List.isEmpty_eq_false_iff, ne_eq, List.map_eq_nil_iff, List.filter_eq_nil_iff, List.mem_range, List.any_eq_true]
  constructor
  · intro h
    refine Classical.byContradiction fun q => h fun i hi e => q ⟨_, natAt_mem hi, e⟩
  · rintro ⟨x, hx, e⟩ h
    obtain ⟨i, hi, rfl⟩ := List.getElem_of_mem hx
    exact h i hi (by simpa [natAt, hi] using e)
theorem cutsV_len (ps : List (Int × Int)) : (cutsV ps).length = 7 := rfl
section
variable {G : G0} {A : Around} {L : Addr} {s0 : Shared} {cl : List Int} {Post : Flow → Shared → Prop}
set_option maxHeartbeats 16000000 in
theorem law_16 (g : GN G) (rm : Rm (fcL G A L).A 9) {ps : List (Int × Int)} {T : Int} {txt : Str} {lx : Item} {aL : Addr} (hm : ∀ pt : Nat, pt < 4 → maskV ps (pt : Nat) < 64) (hm7 : ∀ m ∈ cutsV ps, 1 ≤ m ∧ m < 64) (hA : (T == 0) = aloneB ps) (W : (fcL G A L).Ok)
    (k : Tri (fcL G A L) (FS (fcL G A L) s0 [("quarters", .int T), ("lexer", .raw (.ref aL)), ("text", .str txt)] [lx]) ((bodyAt G.w.params 177).drop 18) Post) :
    Tri (fcL G A L) (FS (fcL G A L) s0 [("plain", .int T), ("colours", .int T), ("quarters", .int T), ("masks", intsA (masksI ps)), ("lexer", .raw (.ref aL)), ("text", .str txt)] [lx]) ((bodyAt G.w.params 177).drop 16) Post := by
  conv => arg 3; whnf
  have cM := own_look (C := L) (lawNd G.w.params) (x := "masks") rfl
  have hxs : (cutsV ps).map (fun m : Nat => AV.int (m : Int)) = (masksI ps).map AV.int ++ (List.range 3).map fun i => AV.int (Builtin.bitXor (nth (masksI ps) 0) (maskV ps ((i + 1 : Nat) : Int) : Int)) := by
    unfold cutsV
    rw [List.map_append, List.map_map, List.map_map]
    refine congr (congrArg _ ?_) ?_
    · unfold masksI; rw [List.map_map]; rfl
    · refine List.map_congr_left fun i hi => ?_
      have h3 := List.mem_range.mp hi
      show AV.int ((maskV ps ((0 : Nat) : Int) ^^^ maskV ps ((i + 1 : Nat) : Int) : Nat) : Int) = _
      rw [← xor_ok (hm 0 (by decide)) (hm (i + 1) (by omega))]
      rfl
  have hz := cutsV_len ps
  refine Tri.asgComp1 W (n := 7) (t := fun i => oneB (natAt (cutsV ps) i)) (f := fun i => AV.int ((natAt (cutsV ps) i : Nat) : Int)) (bs := fun i => [(("mask" : Str), AV.int ((natAt (cutsV ps) i : Nat) : Int))]) (Tg := fun env own P' => Kd env own "mask") (EvG.nm (xs := (cutsV ps).map (fun m : Nat => AV.int (m : Int))) ?_ (by rw [List.length_map, hz]) (fun i => AV.int ((natAt (cutsV ps) i : Nat) : Int)) ?_) (by decide) (of_decide_eq_true (by rfl)) (fun hnd o => free3 (by rfl)) (fun hnd C P' F => Kd.inner hnd rfl (.inl rfl)) (fun hnd o C MU i hi hT => ?_) rfl ?_
  · rw [hxs]
    refine EvI.list (EvF.ev (EvF.addL (nSC W cM) ?_ (map_all _) (by simp [AV.atom]) (by unfold masksI; simp))) (by unfold masksI; simp)
    refine EvE.comp0 (n := 3) (f := fun i => AV.int (Builtin.bitXor (nth (masksI ps) 0) (maskV ps ((i + 1 : Nat) : Int) : Int))) (bs := fun i => [(("mask" : Str), AV.int (maskV ps ((i + 1 : Nat) : Int) : Int))]) (Tg := fun env own P' => Kd env own "mask") (EvG.nm (EvI.list (EvE.listFrom (n := 1) (xs := (masksI ps).map .int) (nSC W cM) (by unfold masksI; simp)) (by unfold masksI; simp)) (by unfold masksI; simp) (fun i => AV.int (maskV ps ((i + 1 : Nat) : Int) : Int)) ?_) (by decide) (of_decide_eq_true (by rfl)) (fun hnd o => free3 (by rfl)) (fun hnd C P' F => Kd.inner hnd rfl (.inl rfl)) (fun hnd o C MU i hi hT => ?_)
    · intro i hi
      match i, hi with
      | 0, _ => rfl
      | 1, _ => rfl
      | 2, _ => rfl
    · exact EvE.bin (EvE.sub (r1 := intsA (masksI ps)) (nF o hnd (CellHas.cel W rfl cM)) .int (OpR.itemL (by decide) (by decide) (intsA_get (by decide) (by unfold masksI; simp)))) (nH hnd) .bxor
  · intro i hi
    rw [List.getElem?_map, List.getElem?_eq_getElem (by omega)]
    have : i < (cutsV ps).length := by omega
    simp [natAt, this]
  · obtain ⟨m1, m2⟩ := hm7 _ (natAt_mem (l := cutsV ps) (j := i) (by omega))
    generalize natAt (cutsV ps) i = m at *
    have chk := chkS_ok m1 m2
    unfold chkS at chk
    simp only [Bool.and_eq_true, decide_eq_true_eq, beq_iff_eq] at chk
    obtain ⟨⟨q1, q2⟩, q3⟩ := chk
    have bl := bitsTo_len m 6
    have e : oneB m = ((((Txt.split (prettyS m) ", ").map AV.str).length : Int) == 1) := by rw [q1, List.length_map, List.length_map]; rfl
    refine ⟨?_, fun _ => nH hnd⟩
    rw [e]
    refine EvT.cmp (EvE.call (f := .builtin "len") (EvE.name (Has.builtin rfl (g.glob rfl) rfl)) .builtin (.cons ?_ .nil) (CaR.lenL (by rw [q1, List.length_map, List.length_map]; omega))) .int .eqI
    exact EvE.meth (EvF.ev (EvF.call (f := 85) (k := 9) (rs := [.int (m : Int)]) (res := .str (prettyS m)) (EvE.name (Has.global rfl (g.glob rfl))) (g.get (by rfl : (fr.heap_1 G.w.params).lookup 85 = some (objAt G.w.params 85))) (fd := fdAt G.w.params 85) rfl (.cons (nH hnd) .nil) (fn_pretty g 8 m1 m2) rm)) MeR.split (.cons .str .nil) (CaR.split (by rfl) q2 q3)
  · have e2 := alone_eq (cutsV ps)
    rw [hz] at e2
    refine Tri.if W (x := false || ((T == 0) != !((((List.range 7).filter fun i => oneB (natAt (cutsV ps) i)).map fun i => AV.int ((natAt (cutsV ps) i : Nat) : Int)).isEmpty))) (EvT.or (EvT.cmp (r1 := .list [.int T, .int T]) (EvE.list (.cons (nL W) (.cons (nL W) .nil)) (by simp)) (EvE.list (.cons (nL W) (.cons (nL W) .nil)) (by simp)) (CmR.neLL rfl)) fun _ => EvT.or1 (EvT.cmp (EvE.cmp (nL W) .int .eqI) (EvE.cmp (nL W) (EvE.list .nil (by simp)) .neL0) .neB)) (fun hx => ?_) (fun hx => Tri.back (Tri.pre k fun s h => FS.sub h ?_))
    · rw [e2, hA] at hx
      unfold aloneB at hx
      simp at hx
    · simp only [List.mem_cons, or_false, forall_eq_or_imp, forall_eq, List.not_mem_nil]
      exact ⟨rfl, rfl, rfl⟩
end
section
variable {fc : FC} {s0 s s' : Shared} {σ : List (Str × AV)} {β : List Item}
theorem EvX.run (hs : FS fc s0 σ β s) {β' : List Item} {e : Expr} {r : AV} {Q : Value → Shared → Prop} {E : Value → Shared → Prop} (h : EvX fc s0 σ β e r β') (k : ∀ v s', FS fc s0 σ β' s' → VR s'.heap s'.toks (PF fc β') r v → Q v s') : wpAny (model fc.G.prog fc.G.w) fc.A (eval e fc.env) Q E s := h s Q E hs k
theorem FS.ref (W : fc.Ok) (h : FS fc s0 σ β s) (R : RefPost fc.G fc.env.locals s s') : FS fc s0 σ β s' := by
  have inF : fc.env.locals ∈ FAd fc.env fc.own := .head _
  have offL : ∀ {b}, b ∈ fc.own.map (·.2) → b ≠ fc.env.locals := fun {b} q e => by
    obtain ⟨p, hp, e2⟩ := List.mem_map.mp q
    exact W.F.nl p hp (e2.trans e)
  refine FS.big W h ⟨R.same, fun a o n e => R.keep a o (fun q => n (List.mem_append_left _ q)) (fun q => n (List.mem_append_right _ (q ▸ inF))) e, R.live, R.le⟩ (fun P hP f t => W.g.tmono _ _ _ (R.tabs P f t) fun a _ p _ => p.1) ?_
  obtain ⟨⟨m, ⟨o, es, ep, e, hd, hk⟩, hm⟩, hc⟩ := h.vars
  obtain ⟨sl, e'⟩ := R.slot o e
  refine ⟨⟨m, ⟨{ o with slots := sl }, es, ep, e', hd, hk⟩, fun x r er hx => ?_⟩, fun x a ea => ?_⟩
  · obtain ⟨v, h1, h2⟩ := hm x r er hx
    exact ⟨v, h1, h2.mono (fun b ob pb eb => R.keep b ob pb.1 (fun q => pb.2 (mem_MUs.mpr (.inl (q ▸ inF)))) eb) (fun _ p => p) R.le⟩
  · obtain ⟨ov, ⟨oc, eo, ed⟩, h2⟩ := hc x a ea
    have ha : a ∈ fc.own.map (·.2) := List.mem_map.mpr ⟨(x, a), mem_of_lookup ea, rfl⟩
    refine ⟨ov, ⟨oc, R.keep a oc (W.F.off a (.tail _ ha)).2 (offL ha) eo, ed⟩, fun r er => ?_⟩
    obtain ⟨v, h3, h4⟩ := h2 r er
    exact ⟨v, h3, h4.mono (fun b ob pb eb => R.keep b ob pb.1 (fun q => pb.2 (mem_MUs.mpr (.inl (q ▸ inF)))) eb) (fun _ p => p) R.le⟩
end
section
variable {G : G0} {A : Around} {L : Addr} {s0 : Shared} {cl : List Int} {Post : Flow → Shared → Prop}
set_option maxHeartbeats 16000000 in
theorem law_18 (g : GN G) (rm : Rm (fcL G A L).A 9) (hfr : (fcL G A L).A.frames = some [(fcL G A L).env]) (hLg : G.g.get? L = none) {T : Int} {txt : Str} {a : LexA} (nd : a.ad.Nodup) {n0 : Int} {cs0 : List Nat} (hz1 : cs0.length ≤ 400000) (hz2 : (tokn n0 cs0).2.2.length ≤ 400000)
    (h1 : tokS (tokn n0 cs0).1 = ("end" : Str)) (h2 : tokS (tokn (tokn n0 cs0).2.1 (tokn n0 cs0).2.2).1 = ("" : Str)) (h3 : (tokn (tokn n0 cs0).2.1 (tokn n0 cs0).2.2).2.1 = 1 + Txt.count txt "\n") (W : (fcL G A L).Ok)
    (k : ∀ s σ β, FS (fcL G A L) s0 σ β s → Post (.ret (.bool true)) s) :
    Tri (fcL G A L) (FS (fcL G A L) s0 [("quarters", .int T), ("lexer", .raw (.ref a.aL)), ("text", .str txt)] [Item.lex G.w.params a n0 cs0]) ((bodyAt G.w.params 177).drop 18) Post := by
  conv => arg 3; whnf
  refine Tri.st fun E s hs => ?_
  rw [exec_Return_some]
  refine wpAny_bind (wpAny_standAt (wpAny_bind ?_))
  refine wpAny_Compare1 ?_
  refine wpAny_List (wpAny_items_cons ?_ (by rfl))
  rw [arm_eval_Call_Name']
  refine wpAny_bind (EvE.run W hs (EvE.name (Has.global rfl (g.glob rfl))) fun v s1 x1 y1 hs1 => ?_)
  (first | ((first | replace y1 := VR.intI y1 | replace y1 := VR.strI y1); obtain ⟨_, rfl⟩ := y1) | ((first | replace y1 := VR.rawI y1 | replace y1 := VRs.nilI y1 | replace y1 := VR.boolI y1 | replace y1 := VR.noneI y1); subst y1) | cases y1)
  refine callWith_K (K := fr.heap_1 G.w.params) (FS.kin g.toGK rfl W hs1) (by rfl) (wpAny_items_cons (EvE.run W hs1 (nL W) fun v s2 x2 y2 hs2 => ?_) (by rfl))
  (first | ((first | replace y2 := VR.intI y2 | replace y2 := VR.strI y2); obtain ⟨_, rfl⟩ := y2) | ((first | replace y2 := VR.rawI y2 | replace y2 := VRs.nilI y2 | replace y2 := VR.boolI y2 | replace y2 := VR.noneI y2); subst y2) | cases y2)
  refine wpAny_items_nil ⟨FS.kin g.toGK rfl W hs2, ?_⟩
  have gl := (hs2.glob W).wk W.g (P' := NT) fun a p => p.1
  obtain ⟨oL, es, ep, eL, hdL, _⟩ : ∃ o es ep, s2.heap.get? L = some o ∧ o.data = .dict es ep ∧ True := by
    obtain ⟨⟨m, ⟨o, es, ep, e, hd, hk⟩, hm⟩, hc⟩ := hs2.vars
    exact ⟨o, es, ep, e, hd, trivial⟩
  refine fn_refused g (rm.le (by decide)) gl hfr (fun q => by cases q) rfl eL (fun vs q => by rw [hdL] at q; cases q) (W.F.off L (.head _)).2 hLg fun tk s3 R => ?_
  have hs3 := FS.ref W hs2 R
  refine wpAny_items_cons ?_ (by rfl)
  refine EvX.run hs3 (EvX.gt g W (rm.le (by decide)) (l := []) (r := []) nd hz1 nS) fun v s4 hs4 y4 => ?_
  rw [h1] at y4
  (first | ((first | replace y4 := VR.intI y4 | replace y4 := VR.strI y4); obtain ⟨_, rfl⟩ := y4) | ((first | replace y4 := VR.rawI y4 | replace y4 := VRs.nilI y4 | replace y4 := VR.boolI y4 | replace y4 := VR.noneI y4); subst y4) | cases y4)
  refine wpAny_items_cons ?_ (by rfl)
  refine EvX.run hs4 (EvX.gt g W (rm.le (by decide)) (l := []) (r := []) nd hz2 nS) fun v s5 hs5 y5 => ?_
  rw [h2] at y5
  (first | ((first | replace y5 := VR.intI y5 | replace y5 := VR.strI y5); obtain ⟨_, rfl⟩ := y5) | ((first | replace y5 := VR.rawI y5 | replace y5 := VRs.nilI y5 | replace y5 := VR.boolI y5 | replace y5 := VR.noneI y5); subst y5) | cases y5)
  refine wpAny_items_cons ?_ (by rfl)
  refine EvE.run W hs5 (EvE.lexLn g W (.head _) nS) fun v s6 x6 y6 hs6 => ?_
  rw [h3] at y6
  (first | ((first | replace y6 := VR.intI y6 | replace y6 := VR.strI y6); obtain ⟨_, rfl⟩ := y6) | ((first | replace y6 := VR.rawI y6 | replace y6 := VRs.nilI y6 | replace y6 := VR.boolI y6 | replace y6 := VR.noneI y6); subst y6) | cases y6)
  refine wpAny_items_nil ⟨Nat.le_trans (show (4 : Nat) ≤ 1000 by decide) (by decide), ?_⟩
  rename_i t4 t5 t6
  have x7 : Ext G s6 { s6 with heap := s6.heap.push { cls := .type "list", data := .seq [Value.str Str.empty tk, .str "end" t4, .str "" t5, .int (1 + Txt.count txt "\n") t6].toArray } } := Ext.of (tk := s6.toks) (le := Nat.le_refl _) W.g fun _ _ e => Heap.get?_push_of_some _ e
  have hs7 := FS.ext W hs6 x7
  refine EvE.run W hs7 (r := .list [.str "", .str "end", .str "", .int (1 + Txt.count txt "\n")]) (EvE.list (.cons .str (.cons .str (.cons .str (.cons (EvE.bin .int (EvE.meth (nL W) MeR.count (.cons .str .nil) CaR.count) .add) .nil)))) (by simp)) fun v2 s8 x8 y8 hs8 => ?_
  have nw := size_none s6.heap
  have y7 : VR s8.heap s8.toks (PF (fcL G A L) []) (.list [.str "", .str "end", .str "", .int (1 + Txt.count txt "\n")]) (.ref s6.heap.objs.size) := by
    have : VR (s6.heap.push { cls := .type "list", data := .seq [Value.str Str.empty tk, .str "end" t4, .str "" t5, .int (1 + Txt.count txt "\n") t6].toArray }) s6.toks (PF (fcL G A L) []) (.list [.str "", .str "end", .str "", .int (1 + Txt.count txt "\n")]) (.ref s6.heap.objs.size) :=
      .list (FS.fresh W hs6 nw).base ⟨_, Heap.get?_push_size _ rfl, rfl, _, rfl⟩ (.cons .str (.cons .str (.cons .str (.cons .int .nil))))
    exact this.ext (cx_ok (s0 := s0) (σ := []) (β := []) W) x8
  refine CmR.eqLL (c := cx (fcL G A L) s0 _ _) rfl (cx_ok W) s8 _ v2 hs8 y7 y8 _ _ fun s9 x9 => wpAny_pure (k s9 _ _ (FS.ext W hs8 x9))
end
theorem call_frameT0 {G : G0} (o : G.Ok) {A : Around} {f : Addr} {ob : Obj} {fd : FuncData} {body : List Stmt} {k : Nat} {rs : List AV} {vs : List Value} {s : Shared} {Q E : Value → Shared → Prop} (names : List Str) (rm : Rm A (k + 1)) (gl : Glob G NT { s with toks := s.toks + 1 }) (hv : VRs s.heap s.toks NT rs vs) (ho : G.g.get? f = some ob) (hd : ob.data = .func fd) (hcd : G.g.CodeRec fd.code fd.qualname)
    (hb : fd.body = .stmts body) (hg : fd.globals = mainGlobals) (hbu : fd.builtins = builtinsNs) (hcl : fd.closure = []) (hnd : (fd.scope.names.map Prod.fst).Nodup) (hnn : names.Nodup) (hl : rs.length = names.length)
    (hbind : ∀ vs, vs.length = names.length → bindArgs fd ⟨vs, []⟩ = pure (names.zip vs)) (hk : ∀ x ∈ names, fd.scope.names.lookup x = some .local ∨ fd.scope.names.lookup x = some .cell)
    (hbody : ∀ L s1, s.heap.get? L = none → (fcOf G (A.deeper (callEnvC fd L f)) fd L f).Ok → FS (fcOf G (A.deeper (callEnvC fd L f)) fd L f) { s with toks := s.toks + 1 } (names.zip rs) [] { s1 with toks := s1.toks + 1 } →
      wpAny (model G.prog G.w) (A.deeper (callEnvC fd L f)) (execs body (callEnvC fd L f)) (fun fl s' => Q (match fl with | .ret v => v | _ => .none) s')
        (fun e s' => wpAny (model G.prog G.w) (A.deeper (callEnvC fd L f)) (leaving (callEnvC fd L f) e) (fun _ s'' => E e s'') (fun e' s'' => E e' s'') s') s1)
    (hco : fd.scope.isCoroutine = false := by rfl) (hgen : fd.scope.isGenerator = false := by rfl) (hsk : fd.scope.kind = .function := by rfl) : wpAny (model G.prog G.w) A (call (.ref f) vs []) Q E s := by
  have hlen : vs.length = names.length := by rw [← hv.length]; exact hl
  have T := gl.top o
  have keys : ((names.zip vs).map Prod.fst).Nodup := by rw [zip_keys hlen]; exact hnn
  refine wpAny_call (call_cells_le (binds := names.zip vs) (by have := rm.2.1; omega) (gl.keep _ _ ho) hd T.nolimit (hcd.keeps gl.keep) hb (hbind vs hlen) hcl ?_ (fun s1 X hle => ?_) hco hgen hsk)
  · intro x hx
    have hx1 : x.1 ∈ names := by
      have := List.mem_map_of_mem (f := Prod.fst) hx
      rwa [zip_keys hlen] at this
    rcases hk _ hx1 with h | h
    · exact .inl h
    · obtain ⟨a, ha⟩ := own_look (C := s.heap.objs.size) hnd h
      exact .inr ⟨h, Option.isSome_iff_exists.mpr ⟨a, ha⟩⟩
  · generalize hL : s.heap.objs.size = L at X ⊢
    obtain ⟨h1, tk, rfl, hkeep⟩ := X.done
    have hle' : s.toks ≤ tk := hle
    have newL : s.heap.get? L = none := ge_none (by rw [hL]; exact Nat.le_refl _)
    have newF : ∀ b ∈ FAd (callEnvC fd L f) (ownOf fd.scope L), s.heap.get? b = none := fun b hb' => by
      rcases List.mem_cons.mp hb' with e | hb'
      · have e' : b = L := e
        rw [e']; exact newL
      · obtain ⟨⟨x, a⟩, hm, rfl⟩ := List.mem_map.mp hb'
        refine ge_none ?_
        have h2 : @LT.lt Nat _ L a := X.above x a hm
        have h3 : @Eq Nat s.heap.objs.size L := hL
        show @LE.le Nat _ s.heap.objs.size a
        omega
    have ntF : ∀ b ∈ FAd (callEnvC fd L f) (ownOf fd.scope L), b ∉ Tb := fun b hb' q => by
      obtain ⟨ob', eo⟩ := o.tlive _ _ gl.tabs b q
      rw [newF b hb'] at eo; cases eo
    have F : FOk (callEnvC fd L f) (ownOf fd.scope L) (PF (fcOf G (A.deeper (callEnvC fd L f)) fd L f) []) := by
      refine ⟨hsk, fun x a h => h, fun p hp => lookup_pw (own_pw hnd) hp, fun x a h => own_cell hnd (mem_of_lookup h), X.apart, fun p hp e => ?_, fun b hb' => ⟨fun p => p.2 (mem_MUs.mpr (.inl hb')), ntF b hb'⟩⟩
      have h2 : @LT.lt Nat _ L p.2 := X.above p.1 p.2 hp
      have e' : @Eq Nat p.2 L := e
      omega
    have W : (fcOf G (A.deeper (callEnvC fd L f)) fd L f).Ok := ⟨o, (deeper_rm rm).le (Nat.zero_le _), F, hg, hbu, fun a h => (nomatch h)⟩
    refine hbody L _ newL W ?_
    refine ⟨Kp.of (s := { s with toks := s.toks + 1 }) (tk := tk + 1) hkeep (Nat.succ_le_succ hle'), fun P fr t => ?_, fun b hb' => ?_, fun b hb' => .inr (newF b ((mem_MUs.mp hb').resolve_right (by simp))), gl, ?_, fun i hi => (nomatch hi), List.Pairwise.nil, fun i hi => (nomatch hi)⟩
    · refine o.tok _ _ _ (o.tmono P _ _ t fun a ob' p e => ⟨p, fun q => ?_⟩) fun a ob' _ e => hkeep a ob' e
      rw [newF a ((mem_MUs.mp q).resolve_right (by simp))] at e; cases e
    · rcases List.mem_cons.mp ((mem_MUs.mp hb').resolve_right (by simp)) with e | hb'
      · obtain ⟨ob', _, _, eo, _⟩ := X.toInCall.ns
        exact ⟨ob', (show b = L from e) ▸ eo⟩
      · obtain ⟨⟨x, a⟩, hm, rfl⟩ := List.mem_map.mp hb'
        obtain ⟨ob', eo, _⟩ := X.cell x a (lookup_pw (own_pw hnd) hm)
        exact ⟨ob', eo⟩
    · have val : ∀ x r, (names.zip rs).lookup x = some r → ∃ v, (x, v) ∈ names.zip vs ∧ VR h1 (tk + 1) (PF (fcOf G (A.deeper (callEnvC fd L f)) fd L f) []) r v := fun x r e => by
        obtain ⟨v, e', y⟩ := zip_look hv e
        refine ⟨v, mem_of_lookup e', y.up (fun a ob' _ e => hkeep a ob' e) (fun a ob' p e => ⟨p, fun q => ?_⟩) (Nat.le_succ_of_le hle')⟩
        rw [newF a ((mem_MUs.mp q).resolve_right (by simp))] at e; cases e
      refine ⟨⟨_, X.toInCall.ns, fun x r e hx => ?_⟩, fun x a e => ⟨_, X.cell x a e, fun r er => ?_⟩⟩
      · obtain ⟨v, hm, y⟩ := val x r e
        exact ⟨v, bindL_get keys hm hx, y⟩
      · obtain ⟨v, hm, y⟩ := val x r er
        refine ⟨v, bindC_get keys hm ?_, y⟩
        rw [show (callEnvC fd L f).kindOf x = some .cell from own_cell hnd (mem_of_lookup e)]
        decide
theorem call_frameT {G : G0} (o : G.Ok) {A : Around} {f : Addr} {ob : Obj} {fd : FuncData} {sc : Scope} {body : List Stmt} {k : Nat} {rs : List AV} {vs : List Value} {s : Shared} {Q E : Value → Shared → Prop} (names : List Str) (hsc : fd.scope = sc) (rm : Rm A (k + 1)) (gl : Glob G NT { s with toks := s.toks + 1 }) (hv : VRs s.heap s.toks NT rs vs) (ho : G.g.get? f = some ob) (hd : ob.data = .func fd) (hcd : G.g.CodeRec fd.code fd.qualname)
    (hb : fd.body = .stmts body) (hg : fd.globals = mainGlobals) (hbu : fd.builtins = builtinsNs) (hcl : fd.closure = []) (hnd : (sc.names.map Prod.fst).Nodup) (hnn : names.Nodup) (hl : rs.length = names.length)
    (hbind : ∀ vs, vs.length = names.length → bindArgs fd ⟨vs, []⟩ = pure (names.zip vs)) (hk : ∀ x ∈ names, sc.names.lookup x = some .local ∨ sc.names.lookup x = some .cell)
    (hbody : ∀ L s1, s.heap.get? L = none → (fcS G (A.deeper (fcS G A fd sc L f).env) fd sc L f).Ok → FS (fcS G (A.deeper (fcS G A fd sc L f).env) fd sc L f) { s with toks := s.toks + 1 } (names.zip rs) [] { s1 with toks := s1.toks + 1 } →
      wpAny (model G.prog G.w) (A.deeper (fcS G A fd sc L f).env) (execs body (fcS G A fd sc L f).env) (fun fl s' => Q (match fl with | .ret v => v | _ => .none) s')
        (fun e s' => wpAny (model G.prog G.w) (A.deeper (fcS G A fd sc L f).env) (leaving (fcS G A fd sc L f).env e) (fun _ s'' => E e s'') (fun e' s'' => E e' s'') s') s1)
    (hco : fd.scope.isCoroutine = false := by rfl) (hgen : fd.scope.isGenerator = false := by rfl) (hsk : fd.scope.kind = .function := by rfl) : wpAny (model G.prog G.w) A (call (.ref f) vs []) Q E s := by
  subst hsc
  exact call_frameT0 o names rm gl hv ho hd hcd hb hg hbu hcl hnd hnn hl hbind hk hbody hco hgen hsk
structure PL (x0 x1 x2 : Int) : Prop where
  tok : ∀ i, i < sizeN x2 → tokAt (textCs (textN x0 x1 (sizeN x2) ++ endT x2)) i = [signC (pipeN x0 i).1, signC (pipeN x0 i).2]
  len : ∀ i, i ≤ sizeN x2 → (lexN (textCs (textN x0 x1 (sizeN x2) ++ endT x2)) i).2.length ≤ 400000
  len2 : (tokn (lexN (textCs (textN x0 x1 (sizeN x2) ++ endT x2)) (sizeN x2)).1 (lexN (textCs (textN x0 x1 (sizeN x2) ++ endT x2)) (sizeN x2)).2).2.2.length ≤ 400000
  e1 : tokS (tokn (lexN (textCs (textN x0 x1 (sizeN x2) ++ endT x2)) (sizeN x2)).1 (lexN (textCs (textN x0 x1 (sizeN x2) ++ endT x2)) (sizeN x2)).2).1 = ("end" : Str)
  e2 : tokS (tokn (tokn (lexN (textCs (textN x0 x1 (sizeN x2) ++ endT x2)) (sizeN x2)).1 (lexN (textCs (textN x0 x1 (sizeN x2) ++ endT x2)) (sizeN x2)).2).2.1 (tokn (lexN (textCs (textN x0 x1 (sizeN x2) ++ endT x2)) (sizeN x2)).1 (lexN (textCs (textN x0 x1 (sizeN x2) ++ endT x2)) (sizeN x2)).2).2.2).1 = ("" : Str)
  e3 : (tokn (tokn (lexN (textCs (textN x0 x1 (sizeN x2) ++ endT x2)) (sizeN x2)).1 (lexN (textCs (textN x0 x1 (sizeN x2) ++ endT x2)) (sizeN x2)).2).2.1 (tokn (lexN (textCs (textN x0 x1 (sizeN x2) ++ endT x2)) (sizeN x2)).1 (lexN (textCs (textN x0 x1 (sizeN x2) ++ endT x2)) (sizeN x2)).2).2.2).2.1 = 1 + Txt.count (textN x0 x1 (sizeN x2)) "\n"
  m1 : ∀ pt : Nat, pt < 4 → 1 ≤ maskV (pipesN x0 (sizeN x2)) (pt : Nat) ∧ maskV (pipesN x0 (sizeN x2)) (pt : Nat) < 2 ^ sizeN x2
  m7 : ∀ m ∈ cutsV (pipesN x0 (sizeN x2)), 1 ≤ m ∧ m < 64
  sq : ((choicesN (sizeN x2)).map fun ch => quarters (pipesN x0 (sizeN x2)) (endsV (pipesN x0 (sizeN x2))) ch).sum = ((choicesN (sizeN x2)).map fun ch => plain (pipesN x0 (sizeN x2)) ch).sum
  sc : ((choicesN (sizeN x2)).map fun ch => colours (endsV (pipesN x0 (sizeN x2))) ch).sum = ((choicesN (sizeN x2)).map fun ch => plain (pipesN x0 (sizeN x2)) ch).sum
  al : (((choicesN (sizeN x2)).map fun ch => plain (pipesN x0 (sizeN x2)) ch).sum == 0) = aloneB (pipesN x0 (sizeN x2))
theorem bind_law (P : Params) : ∀ vs : List Value, vs.length = 1 → bindArgs (fdAt P 177) ⟨vs, []⟩ = pure ((["script"] : List Str).zip vs) := by
  intro vs h
  obtain ⟨a, rfl⟩ := len1 h
  kernel_rfl
set_option maxHeartbeats 16000000 in
theorem fn_law {G : G0} (g : GN G) {A : Around} {s : Shared} {v : Value} {ns : List Int} {Q E : Value → Shared → Prop} (rm : Rm A 10) (hfr : A.frames = some []) (gl : Glob G NT { s with toks := s.toks + 1 }) (hv : VR s.heap s.toks NT (intsA ns) v) (hn : ns.length ≤ 1000)
    (hPL : ∀ x0 x1 x2 : Int, 0 ≤ x0 ∧ x0 ≤ 100000000 → 0 ≤ x1 ∧ x1 ≤ 100000000 → 0 ≤ x2 ∧ x2 ≤ 100000000 → PL x0 x1 x2) (k : ∀ s', Ext G { s with toks := s.toks + 1 } s' → Q (.bool true) s') : wpAny (model G.prog G.w) A (call (.ref 177) [v] []) Q E s := by
  refine call_frameT g.toOk (k := 9) (sc := lawSc G.w.params) (fd := fdAt G.w.params 177) (body := bodyAt G.w.params 177) (rs := [intsA ns]) ["script"] (lawScS G.w.params).2 rm gl (.cons hv .nil) (g.get (by rfl : (fr.heap_1 G.w.params).lookup 177 = some (objAt G.w.params 177))) rfl
    ⟨176, _, _, _, rfl, g.get rfl, rfl, rfl⟩ rfl rfl rfl rfl (lawNd _) (by decide) rfl (bind_law _) ?hk ?main
  case hk =>
    intro x hx
    rw [List.mem_singleton.mp hx]
    exact .inl rfl
  case main =>
  intro L s1 hL W hs1
  have rm' : Rm (fcL G A L).A 9 := deeper_rm rm
  have hLg : G.g.get? L = none := by
    cases e : G.g.get? L with
    | none => rfl
    | some o => have := gl.keep _ _ e; rw [hL] at this; cases this
  have hfr' : (fcL G A L).A.frames = some [(fcL G A L).env] := by
    obtain ⟨h1, -, -, -⟩ := frs_push (fd := fdAt G.w.params 177) (sc := lawSc G.w.params) (f := 177) hs1 hfr (fun env he => nomatch he) (fun b hb => nomatch hb) hL rfl
    exact h1
  have W' : (fcL G A L).Ok := W
  have hs1' : FS (fcL G A L) { s with toks := s.toks + 1 } [("script", intsA ns)] [] { s1 with toks := s1.toks + 1 } := hs1
  have hl60 : (ns.take 60).length ≤ 60 := List.length_take_le _ _
  have b := cellsN_b (ns.take 60) (ns.take 60).length
  have hb : ∀ j : Nat, j < 3 → 0 ≤ nth (cells3 ns) (j : Nat) ∧ nth (cells3 ns) (j : Nat) ≤ 100000000 := fun j hj => by
    have := b j hj
    unfold cells3
    omega
  have hcl : (cells3 ns).length = 3 := cellsN_len _ _
  have pl := hPL (nth (cells3 ns) 0) (nth (cells3 ns) 1) (nth (cells3 ns) 2) (hb 0 (by decide)) (hb 1 (by decide)) (hb 2 (by decide))
  have hg2 : ((cells3 ns).map AV.int)[(2 : Int).toNat]? = some (.int (nth (cells3 ns) 2)) := intsA_get (by decide) (by rw [hcl]; decide)
  generalize hx0 : nth (cells3 ns) 0 = x0 at *
  generalize hx1 : nth (cells3 ns) 1 = x1 at *
  generalize hx2 : nth (cells3 ns) 2 = x2 at *
  have hN := sizeN_b x2
  have hps : (pipesN x0 (sizeN x2)).length = sizeN x2 := by unfold pipesN; simp
  have tl := textN_len x0 x1 (sizeN x2)
  have hm64 : ∀ pt : Nat, pt < 4 → maskV (pipesN x0 (sizeN x2)) (pt : Nat) < 64 := fun pt hpt => by
    refine Nat.lt_of_lt_of_le (pl.m1 pt hpt).2 ?_
    rcases hN with h | h <;> rw [h] <;> decide
  refine (show Tri (fcL G A L) (fun s' => s' = s1) (bodyAt G.w.params 177) (fun fl s' => Q (match fl with | .ret v => v | _ => .none) s') from ?_) _ s1 rfl
  have k1 : ∀ a, Tri (fcL G A L) (FS (fcL G A L) { s with toks := s.toks + 1 } [("cells", .raw (.ref a)), ("script", intsA ns)] [Item.plist a [.int 732009, .int 3125, .int 2]]) ((bodyAt G.w.params 177).drop 1) (fun fl s' => Q (match fl with | .ret v => v | _ => .none) s') := fun a => by
    refine law_1 g hn W' ?_
    refine Tri.vars (law_2 (ns := ns) g hcl W' fun ap => ?_) (by simp only [List.mem_cons, or_false, forall_eq_or_imp, forall_eq, List.not_mem_nil]; exact ⟨rfl, rfl⟩)
    refine law_3 g hcl hb W' ?_
    rw [hx0, hx1, hx2]
    refine law_4 g (rm'.le (by decide)) (x1 := x1) hg2 (by omega) (by omega) rfl W' pl.tok pl.len fun a nd => ?_
    refine law_6 g (rm'.le (by decide)) hps (by omega) W' fun nm => ?_
    refine law_8 g (rm'.le (by decide)) (fun pt h => ⟨(pl.m1 pt h).1, hm64 pt h⟩) W' ?_
    refine law_9 g W' ?_
    refine law_11 g (rm'.le (by decide)) hN (fun pt h => (pl.m1 pt h).2) W' ?_
    refine law_13 g rm' hps hN (fun pt h => (pl.m1 pt h).2) W' ?_
    rw [pl.sq, pl.sc]
    refine law_16 g rm' hm64 pl.m7 pl.al W' ?_
    exact law_18 g rm' hfr' hLg nd (pl.len _ (Nat.le_refl _)) pl.len2 pl.e1 pl.e2 pl.e3 W' fun s' σ β h => k s' (FS.toExt W' h rfl)
  conv => arg 3; whnf
  conv at k1 => intro a; arg 3; whnf
  refine Tri.asg rfl fun E s h => ?_
  subst h
  refine wpAny_List (wpAny_items_cons ?_ (by rfl))
  refine wpAny_Constant_int ?_
  refine wpAny_items_cons ?_ (by rfl)
  refine EvE.run W' hs1' .int fun v s2 x2 y2 hs2 => ?_
  (first | ((first | replace y2 := VR.intI y2 | replace y2 := VR.strI y2); obtain ⟨_, rfl⟩ := y2) | ((first | replace y2 := VR.rawI y2 | replace y2 := VRs.nilI y2 | replace y2 := VR.boolI y2 | replace y2 := VR.noneI y2); subst y2) | cases y2)
  refine wpAny_items_cons ?_ (by rfl)
  refine EvE.run W' hs2 .int fun v s3 x3 y3 hs3 => ?_
  (first | ((first | replace y3 := VR.intI y3 | replace y3 := VR.strI y3); obtain ⟨_, rfl⟩ := y3) | ((first | replace y3 := VR.rawI y3 | replace y3 := VRs.nilI y3 | replace y3 := VR.boolI y3 | replace y3 := VR.noneI y3); subst y3) | cases y3)
  refine wpAny_items_nil ⟨Nat.le_trans (show (3 : Nat) ≤ 1000 by decide) (by decide), ?_⟩
  rename_i t2 t3
  have x4 : Ext G s3 { s3 with heap := s3.heap.push { cls := .type "list", data := .seq [Value.int 732009 s.toks, .int 3125 t2, .int 2 t3].toArray } } := Ext.of (tk := s3.toks) (le := Nat.le_refl _) W'.g fun _ _ e => Heap.get?_push_of_some _ e
  have hs4 := FS.addP (xs := [.int 732009, .int 3125, .int 2]) W' hs3 (size_none s3.heap) x4 (Heap.get?_push_size _ rfl) (.cons .int (.cons .int (.cons .int .nil)))
  exact hs4.store W' (.inl rfl) .raw fun s5 h5 E' => k1 _ E' s5 h5
noncomputable abbrev tabsL : List (Addr × Addr) := [(48, 44), (133, 129), (41, 37)]
noncomputable def gG (w : World) (h : Heap) (loose : List Str) (mean : ExcName → Option Value) (mg mb : Str → Option Value) : G0 where
  prog := PySem.Challenge.rw_wc0010_01.row.prog
  w := w
  K := fr.heap_1 w.params
  g := ghostOf h tabsL
  p := topProg
  loose := loose
  mean := mean
  mg := mg
  mb := mb
  TO := fun Q h => TabD Q h 37 (inPos w.params 42) (inQual w.params 42) ∧ TabD Q h 44 (inPos w.params 49) (inQual w.params 49) ∧ TabL Q h 129 (lamQual w.params)
theorem TabD.keepQ {Q Q' : Addr → Prop} {h h' : Heap} {tab : Addr} {pos : Pos} {qual : Str} (t : TabD Q h tab pos qual) (kt : ∀ o, h.get? tab = some o → h'.get? tab = some o) (k : ∀ a o vs, Q a → h.get? a = some o → o.data = .fields vs → h'.get? a = some o ∧ Q' a) : TabD Q' h' tab pos qual := by
  rcases t with g | ⟨c', g, q, c2, o, vs, u, e1, e2, e3, e4⟩
  · exact .inl (kt _ g)
  · cases e1
    obtain ⟨k1, k2⟩ := k c' o vs q e2 e3
    exact .inr ⟨c', kt _ g, k2, c', o, vs, u, rfl, k1, e3, e4⟩
theorem TabL.keepQ {Q Q' : Addr → Prop} {h h' : Heap} {tab : Addr} {qual : Str} (t : TabL Q h tab qual) (kt : ∀ o, h.get? tab = some o → h'.get? tab = some o) (k : ∀ a o vs, Q a → h.get? a = some o → o.data = .fields vs → h'.get? a = some o ∧ Q' a) : TabL Q' h' tab qual := by
  obtain ⟨ps, g, ok, hq⟩ := t
  refine ⟨ps, kt _ g, ok, fun pos v e => ?_⟩
  obtain ⟨c', rfl, q, c2, o, vs, u, e1, e2, e3, e4⟩ := hq pos v e
  cases e1
  obtain ⟨k1, k2⟩ := k c' o vs q e2 e3
  exact ⟨c', rfl, k2, c', o, vs, u, rfl, k1, e3, e4⟩
theorem TabD.ob {Q : Addr → Prop} {h : Heap} {tab : Addr} {pos : Pos} {qual : Str} (t : TabD Q h tab pos qual) : ∃ ps, h.get? tab = some (tabObj ps) := by
  rcases t with g | ⟨c', g, _⟩
  · exact ⟨_, g⟩
  · exact ⟨_, g⟩
theorem gG_ok {w : World} {h : Heap} {p : Program} {loose : List Str} {mean : ExcName → Option Value} {mg mb : Str → Option Value} (hT : TabsAt tabsL h) (X : (fr.heap_1 w.params).In h) (T : Top p loose mean mg mb h) : GN (gG w h (loose ++ (recsOf p).map (·.name) ++ (litsOf p).map (·.1) ++ (clssOf p loose).map (·.name)) mean mg mb) := by
  refine ⟨⟨⟨ghost_K hT X (by kernel_rfl), ghost_top hT T, fun a ha => hideAll_none _ ?_, ?_, ?_, ?_, ?_⟩, rfl⟩, rfl⟩
  · simp only [Tb, List.mem_cons, List.not_mem_nil, or_false] at ha
    rcases ha with rfl | rfl | rfl <;> simp
  · rintro P h h' ⟨t1, t2, t3⟩ k
    have kk : ∀ a o vs, P a → h.get? a = some o → o.data = .fields vs → h'.get? a = some o ∧ P a := fun a o vs p e _ => ⟨k a o (.inl p) e, p⟩
    exact ⟨t1.keepQ (fun o e => k _ o (.inr (by decide)) e) kk, t2.keepQ (fun o e => k _ o (.inr (by decide)) e) kk, t3.keepQ (fun o e => k _ o (.inr (by decide)) e) kk⟩
  · rintro P P' h ⟨t1, t2, t3⟩ k
    have kk : ∀ a o vs, P a → h.get? a = some o → o.data = .fields vs → h.get? a = some o ∧ P' a := fun a o vs p e _ => ⟨e, k a o p e⟩
    exact ⟨t1.keepQ (fun o e => e) kk, t2.keepQ (fun o e => e) kk, t3.keepQ (fun o e => e) kk⟩
  · rintro P h a ob ⟨t1, t2, t3⟩ e0 nf
    have kk : ∀ b o vs, P b → h.get? b = some o → o.data = .fields vs → h.get? b = some o ∧ (P b ∧ b ≠ a) := fun b o vs p e hd => ⟨e, p, fun q => by rw [q, e0] at e; cases e; exact nf _ hd⟩
    exact ⟨t1.keepQ (fun o e => e) kk, t2.keepQ (fun o e => e) kk, t3.keepQ (fun o e => e) kk⟩
  · rintro P h ⟨t1, t2, t3⟩ a ha
    simp only [Tb, List.mem_cons, List.not_mem_nil, or_false] at ha
    rcases ha with rfl | rfl | rfl
    · obtain ⟨ps, e⟩ := t1.ob; exact ⟨_, e⟩
    · obtain ⟨ps, e⟩ := t2.ob; exact ⟨_, e⟩
    · obtain ⟨ps, e, _⟩ := t3; exact ⟨_, e⟩
theorem gG_glob {w : World} {s : Shared} {loose : List Str} {mean : ExcName → Option Value} {mg mb : Str → Option Value} (hT : TabsAt tabsL s.heap) (hg : s.gens = #[]) : Glob (gG w s.heap loose mean mg mb) NT { s with toks := s.toks + 1 } where
  keep := fun a o e => of_hideAll _ e
  tabs := ⟨.inl (hT (41, 37) (by simp)).2, .inl (hT (48, 44) (by simp)).2, ⟨#[], (hT (133, 129) (by simp)).2, trivial, fun pos v e => by cases e⟩⟩
  gens := hg
  pos := Nat.succ_pos _
theorem oldK {w : World} {s s' : Shared} {loose : List Str} {mean : ExcName → Option Value} {mg mb : Str → Option Value} (hT : TabsAt tabsL s.heap) (hg : s.gens = #[]) (x : Ext (gG w s.heap loose mean mg mb) { s with toks := s.toks + 1 } s') : OldK s.heap s'.heap := by
  have t := x.tabs (fun _ => True) (fun _ _ => trivial) (((gG_glob (w := w) (loose := loose) (mean := mean) (mg := mg) (mb := mb) hT hg).tabs) |> fun t => by
    obtain ⟨t1, t2, t3⟩ := t
    have kk : ∀ a o vs, NT a → s.heap.get? a = some o → o.data = .fields vs → s.heap.get? a = some o ∧ True := fun a o vs p e _ => ⟨e, trivial⟩
    exact ⟨t1.keepQ (fun o e => e) kk, t2.keepQ (fun o e => e) kk, t3.keepQ (fun o e => e) kk⟩)
  have tb : ∀ q ∈ tabsL, ∃ ps, s'.heap.get? q.2 = some (tabObj ps) := fun q hq => by
    obtain ⟨t1, t2, t3⟩ := t
    simp only [tabsL, List.mem_cons, List.not_mem_nil, or_false] at hq
    rcases hq with rfl | rfl | rfl
    · exact t2.ob
    · obtain ⟨ps, e, _⟩ := t3; exact ⟨ps, e⟩
    · exact t1.ob
  refine ⟨fun b o e => ?_, fun b o e => x.live b o e⟩
  by_cases hb : b ∈ Tb
  · have : ∃ q ∈ tabsL, q.2 = b := by
      simp only [Tb, List.mem_cons, List.not_mem_nil, or_false] at hb
      rcases hb with rfl | rfl | rfl
      · exact ⟨(41, 37), by simp, rfl⟩
      · exact ⟨(48, 44), by simp, rfl⟩
      · exact ⟨(133, 129), by simp, rfl⟩
    obtain ⟨q, hq, rfl⟩ := this
    obtain ⟨ps, e2⟩ := tb q hq
    have h0 := hT q hq
    have eo : o = tabObj #[] := Option.some.inj (e.symm.trans h0.2)
    subst eo
    exact .inr (.inl ⟨(h0.1.tab h0.2).isCodeTable, rfl, #[], ps, rfl, by simpa using e2⟩)
  · exact .inl (x.keep b o hb e)
open StrLaws in
theorem occ_go (x : Str) (c : Nat) : ∀ (m k : Nat) (st : Array Nat × Nat), k + m = x.length + 1 → st.1.size ≤ k → st.2 ≤ k →
    (forIn (List.range' k m) st (occBody x ⟨#[c]⟩ x.length (x.length + 1))).run.fst.size = st.1.size + ((List.range' k m).filter fun i => x.cps.toList[i]? == some c).length
  | 0, k, st, _, _, _ => by simp
  | m + 1, k, st, h1, h2, h3 => by
    rw [List.range'_succ, List.forIn_cons]
    by_cases hc : x.cps.toList[k]? = some c
    · have q := (subAt_one x c k).mpr hc
      have e : occBody x ⟨#[c]⟩ x.length (x.length + 1) k st = pure (ForInStep.yield (st.fst.push k, k + (⟨#[c]⟩ : Str).length)) := by
        unfold occBody
        rw [if_pos ⟨⟨⟨by omega, h3⟩, q.1⟩, q.2⟩]
      rw [e]
      have ih := occ_go x c m (k + 1) (st.fst.push k, k + (⟨#[c]⟩ : Str).length) (by omega) (by simp; omega) (Nat.le_refl _)
      refine ih.trans ?_
      rw [List.filter_cons_of_pos (by simpa using hc)]
      simp only [Array.size_push, List.length_cons]
      omega
    · have e : occBody x ⟨#[c]⟩ x.length (x.length + 1) k st = pure (ForInStep.yield (st.fst, st.snd)) := by
        unfold occBody
        rw [if_neg fun q => hc ((subAt_one x c k).mp ⟨q.1.2, q.2⟩)]
      rw [e]
      have ih := occ_go x c m (k + 1) (st.fst, st.snd) (by omega) (by simp; omega) (by simp; omega)
      refine ih.trans ?_
      rw [List.filter_cons_of_neg (by simpa using hc)]
theorem filt_count (l : List Nat) (c : Nat) : ∀ n, ((List.range n).filter fun i => l[i]? == some c).length = (l.take n).count c
  | 0 => by simp
  | n + 1 => by
    rw [List.range_succ, List.filter_append, List.length_append, filt_count l c n, List.take_succ, List.count_append]
    congr 1
    cases e : l[n]? with
    | none => simp [e]
    | some a =>
      by_cases q : a = c
      · simp [e, q]
      · simp [e, q]
theorem occ_count (x : Str) (c : Nat) : Txt.count x ⟨#[c]⟩ = (x.cps.toList.count c : Nat) := by
  show ((Builtin.Str.occurrences x ⟨#[c]⟩ 0 x.length (x.length + 1)).length : Int) = _
  rw [StrLaws.occ_eq, Array.length_toList, occ_go x c _ 0 _ (by omega) (Nat.le_refl _) (Nat.le_refl _)]
  have e : List.range' 0 (x.length + 1 - 0) = List.range (x.length + 1) := by rw [List.range_eq_range']; rfl
  rw [e, filt_count]
  have : x.cps.toList.take (x.length + 1) = x.cps.toList := List.take_of_length_le (by simp [Str.length])
  rw [this]
  simp
noncomputable def nl1 (c : Nat) : Nat := if c == 10 then 1 else 0
noncomputable def nlL (l : List Nat) : Nat := l.count 10
theorem st1_nl (c : Nat) : (st1 c == ("\n" : Str)) = (c == 10) := by
  rw [Bool.eq_iff_iff, beq_iff_eq, beq_iff_eq]
  constructor
  · intro h
    have : some c = some 10 := congrArg (fun x : Str => x.cps[0]?) h
    exact Option.some.inj this
  · rintro rfl; rfl
theorem lnc_eq (n : Int) (c : Nat) : lnc n c = n + (nl1 c : Nat) := by
  unfold lnc nl1
  rw [st1_nl]
  cases c == 10 <;> simp
theorem nlL_cons (c : Nat) (l : List Nat) : nlL (c :: l) = nl1 c + nlL l := by
  unfold nlL nl1
  rw [List.count_cons]
  by_cases h : c = 10
  · simp [h]; omega
  · simp [h]
theorem nlL_app (l r : List Nat) : nlL (l ++ r) = nlL l + nlL r := by unfold nlL; exact List.count_append
noncomputable def runP (stop : Nat → Bool) : List Nat → Nat → List Nat → Option (List Nat × Nat × List Nat)
  | _, _, [] => none
  | tok, k, c :: cs => if stop c then some (tok, k + nl1 c, cs) else if isB c then (match cs with
      | [] => none
      | d :: cs' => runP stop (tok ++ [d]) (k + nl1 c + nl1 d) cs') else runP stop (tok ++ [c]) (k + nl1 c) cs
theorem quoP_ok (n : Int) (R : List Nat) : ∀ (N : Nat) (l tok : List Nat) (k : Nat) (t : List Nat) (m : Nat) (r : List Nat), l.length ≤ N → runP isQ tok k l = some (t, m, r) → quo tok (n + (k : Nat)) (l ++ R) = (t, n + (m : Nat), r ++ R)
  | N, [], tok, k, t, m, r, _, h => by simp [runP] at h
  | N, c :: cs, tok, k, t, m, r, hN, h => by
    rw [List.cons_append]
    unfold runP at h
    cases h1 : isQ c with
    | true =>
      rw [h1] at h
      simp only [if_true, Option.some.injEq, Prod.mk.injEq] at h
      obtain ⟨rfl, rfl, rfl⟩ := h
      rw [quo_end h1, lnc_eq]
      simp; omega
    | false =>
      rw [h1] at h
      simp only [Bool.false_eq_true, if_false] at h
      cases h2 : isB c with
      | true =>
        rw [h2] at h
        simp only [if_true] at h
        cases cs with
        | nil => simp at h
        | cons d cs' =>
          simp only at h
          match N, hN with
          | N + 2, hN =>
            have ih := quoP_ok n R N cs' (tok ++ [d]) (k + nl1 c + nl1 d) t m r (by simp at hN; omega) h
            rw [quo_esc h1 h2]
            rw [← ih]
            show quo (tok ++ [d]) (lnS (lnc (n + (k : Nat)) c) (d :: (cs' ++ R))) (cs' ++ R) = _
            have e : lnS (lnc (n + (k : Nat)) c) (d :: (cs' ++ R)) = lnc (lnc (n + (k : Nat)) c) d := rfl
            rw [e, lnc_eq, lnc_eq]
            congr 1
            simp; omega
          | 1, hN => simp at hN
          | 0, hN => simp at hN
      | false =>
        rw [h2] at h
        simp only [Bool.false_eq_true, if_false] at h
        match N, hN with
        | N + 1, hN =>
          have ih := quoP_ok n R N cs (tok ++ [c]) (k + nl1 c) t m r (by simpa using hN) h
          rw [quo_pl h1 h2, ← ih, lnc_eq]
          congr 1
          simp; omega
        | 0, hN => simp at hN
theorem unqP_ok (n : Int) (R : List Nat) : ∀ (N : Nat) (l tok : List Nat) (k : Nat) (t : List Nat) (m : Nat) (r : List Nat), l.length ≤ N → runP wsB tok k l = some (t, m, r) → unq tok (n + (k : Nat)) (l ++ R) = (t, n + (m : Nat), r ++ R)
  | N, [], tok, k, t, m, r, _, h => by simp [runP] at h
  | N, c :: cs, tok, k, t, m, r, hN, h => by
    rw [List.cons_append]
    unfold runP at h
    cases h1 : wsB c with
    | true =>
      rw [h1] at h
      simp only [if_true, Option.some.injEq, Prod.mk.injEq] at h
      obtain ⟨rfl, rfl, rfl⟩ := h
      rw [unq_end h1, lnc_eq]
      simp; omega
    | false =>
      rw [h1] at h
      simp only [Bool.false_eq_true, if_false] at h
      cases h2 : isB c with
      | true =>
        rw [h2] at h
        simp only [if_true] at h
        cases cs with
        | nil => simp at h
        | cons d cs' =>
          simp only at h
          match N, hN with
          | N + 2, hN =>
            have ih := unqP_ok n R N cs' (tok ++ [d]) (k + nl1 c + nl1 d) t m r (by simp at hN; omega) h
            rw [unq_esc h1 h2]
            rw [← ih]
            show unq (tok ++ [d]) (lnS (lnc (n + (k : Nat)) c) (d :: (cs' ++ R))) (cs' ++ R) = _
            have e : lnS (lnc (n + (k : Nat)) c) (d :: (cs' ++ R)) = lnc (lnc (n + (k : Nat)) c) d := rfl
            rw [e, lnc_eq, lnc_eq]
            congr 1
            simp; omega
          | 1, hN => simp at hN
          | 0, hN => simp at hN
      | false =>
        rw [h2] at h
        simp only [Bool.false_eq_true, if_false] at h
        match N, hN with
        | N + 1, hN =>
          have ih := unqP_ok n R N cs (tok ++ [c]) (k + nl1 c) t m r (by simpa using hN) h
          rw [unq_pl h1 h2, ← ih, lnc_eq]
          congr 1
          simp; omega
        | 0, hN => simp at hN
noncomputable def toknP : List Nat → Option (List Nat × Nat × List Nat)
  | [] => none
  | c :: cs => if wsB c then none else if isQ c then runP isQ [] (nl1 c) cs else if isB c then (match cs with
      | [] => none
      | d :: cs' => runP wsB [d] (nl1 c + nl1 d) cs') else runP wsB [c] (nl1 c) cs
theorem toknP_ok (n : Int) (R : List Nat) {l t : List Nat} {m : Nat} {r : List Nat} (h : toknP l = some (t, m, r)) : tokn n (l ++ R) = (t, n + (m : Nat), r ++ R) := by
  cases l with
  | nil => simp [toknP] at h
  | cons c cs =>
    rw [List.cons_append]
    simp only [toknP] at h
    cases h0 : wsB c with
    | true => rw [h0] at h; simp at h
    | false =>
      rw [h0] at h
      simp only [Bool.false_eq_true, if_false] at h
      cases h1 : isQ c with
      | true =>
        rw [h1] at h
        simp only [if_true] at h
        rw [tokn_q h0 h1, lnc_eq]
        exact quoP_ok n R _ cs [] (nl1 c) t m r (Nat.le_refl _) h
      | false =>
        rw [h1] at h
        simp only [Bool.false_eq_true, if_false] at h
        cases h2 : isB c with
        | true =>
          rw [h2] at h
          simp only [if_true] at h
          cases cs with
          | nil => simp at h
          | cons d cs' =>
            simp only at h
            rw [tokn_esc h0 h1 h2]
            have ih := unqP_ok n R _ cs' [d] (nl1 c + nl1 d) t m r (Nat.le_refl _) h
            rw [← ih]
            show unq [d] (lnS (lnc n c) (d :: (cs' ++ R))) (cs' ++ R) = _
            have e : lnS (lnc n c) (d :: (cs' ++ R)) = lnc (lnc n c) d := rfl
            rw [e, lnc_eq, lnc_eq]
            congr 1
            simp; omega
        | false =>
          rw [h2] at h
          simp only [Bool.false_eq_true, if_false] at h
          rw [tokn_pl h0 h1 h2, lnc_eq]
          exact unqP_ok n R _ cs [c] (nl1 c) t m r (Nat.le_refl _) h
theorem tokn_lead (R : List Nat) : ∀ (l : List Nat) (n : Int), l.all wsB = true → tokn n (l ++ R) = tokn (n + (nlL l : Nat)) R
  | [], n, _ => by simp [nlL]
  | c :: l, n, h => by
    simp only [List.all_cons, Bool.and_eq_true] at h
    rw [List.cons_append, tokn_ws h.1, tokn_lead R l _ h.2, lnc_eq, nlL_cons]
    congr 1
    simp; omega
theorem textCs_app (a b : Str) : textCs (a ++ b) = textCs a ++ textCs b := by
  show (Str.append a b).cps.toList = _
  simp [Str.append, textCs]
noncomputable def remT (k g : Int) : List Nat := if k == 0 then (textCs (gapT g)).tail else textCs (gapT g)
noncomputable def chkT (p : Int × Int) (k g : Int) : Bool := match toknP (textCs (partT p k g)) with
  | none => false
  | some (t, m, r) => t == [signC p.1, signC p.2] && r == remT k g && m + nlL r == nlL (textCs (partT p k g)) && (remT k g).all wsB && decide ((remT k g).length ≤ 2)
theorem chkT_all : (([0, 1, 2, 3] : List Int).all fun a => ([0, 1, 2, 3] : List Int).all fun b => ([0, 1, 2] : List Int).all fun k => ([0, 1, 2, 3] : List Int).all fun g => chkT (a, b) k g) = true := by decide +kernel
theorem chkT_ok {p : Int × Int} {k g : Int} (h1 : 0 ≤ p.1 ∧ p.1 < 4) (h2 : 0 ≤ p.2 ∧ p.2 < 4) (h3 : 0 ≤ k ∧ k < 3) (h4 : 0 ≤ g ∧ g < 4) : chkT p k g = true := by
  have h := chkT_all
  simp only [List.all_eq_true] at h
  exact h p.1 (mem4 h1) p.2 (mem4 h2) k (mem3 h3) g (mem4 h4)
noncomputable def remI (x1 : Int) : Nat → List Nat
  | 0 => []
  | i + 1 => remT (kindN x1 i) (gapI x1 i)
noncomputable def restD (x0 x1 : Int) : Nat → Nat → List Nat
  | _, 0 => []
  | i, d + 1 => textCs (partN x0 x1 i) ++ restD x0 x1 (i + 1) d
theorem restD_text (x0 x1 : Int) : ∀ d i, textCs (textN x0 x1 (i + d)) = textCs (textN x0 x1 i) ++ restD x0 x1 i d
  | 0, i => by simp [restD]
  | d + 1, i => by
    have e : i + (d + 1) = (i + 1) + d := by omega
    rw [e, restD_text x0 x1 d (i + 1)]
    show textCs (textN x0 x1 i ++ partN x0 x1 i) ++ _ = _
    rw [textCs_app, List.append_assoc]; rfl
theorem part_ok (x0 x1 : Int) (i : Nat) : chkT (pipeN x0 i) (kindN x1 i) (gapI x1 i) = true := by
  have pb := pipeN_b x0 i
  exact chkT_ok pb.1 pb.2 (fm_b _ (by decide)) (fm_b _ (by decide))
theorem remI_ok (x1 : Int) (i : Nat) : (remI x1 i).all wsB = true ∧ (remI x1 i).length ≤ 2 := by
  cases i with
  | zero => exact ⟨rfl, (by decide : ([] : List Nat).length ≤ 2)⟩
  | succ i =>
    have h := part_ok 0 x1 i
    unfold chkT at h
    split at h
    · simp at h
    · simp only [Bool.and_eq_true, beq_iff_eq, decide_eq_true_eq] at h
      exact ⟨h.1.2, h.2⟩
theorem part_tok (x0 x1 : Int) (i : Nat) (n : Int) (R : List Nat) : ∃ m : Nat, tokn n (textCs (partN x0 x1 i) ++ R) = ([signC (pipeN x0 i).1, signC (pipeN x0 i).2], n + (m : Nat), remI x1 (i + 1) ++ R) ∧ m + nlL (remI x1 (i + 1)) = nlL (textCs (partN x0 x1 i)) := by
  have h := part_ok x0 x1 i
  unfold chkT at h
  split at h
  · simp at h
  · rename_i t m r e
    simp only [Bool.and_eq_true, beq_iff_eq, decide_eq_true_eq] at h
    obtain ⟨⟨⟨⟨h1, h2⟩, h3⟩, h4⟩, h5⟩ := h
    subst h1 h2
    exact ⟨m, toknP_ok n R e, h3⟩
theorem lex_at (x0 x1 : Int) (E : List Nat) (N : Nat) : ∀ i d, i + d = N → ∃ n : Int, lexN (textCs (textN x0 x1 N) ++ E) i = (n, remI x1 i ++ (restD x0 x1 i d ++ E)) ∧ n + (nlL (remI x1 i) : Nat) = 1 + (nlL (textCs (textN x0 x1 i)) : Nat)
  | 0, d, h => by
    have e : N = 0 + d := h.symm
    refine ⟨1, ?_, by simp [remI, nlL, textN]; rfl⟩
    show ((1 : Int), _) = _
    rw [e, restD_text x0 x1 d 0]
    rfl
  | i + 1, d, h => by
    obtain ⟨n, e, hn⟩ := lex_at x0 x1 E N i (d + 1) (by omega)
    obtain ⟨w1, w2⟩ := remI_ok x1 i
    obtain ⟨m, e2, hm⟩ := part_tok x0 x1 i (n + (nlL (remI x1 i) : Nat)) (restD x0 x1 (i + 1) d ++ E)
    have et : tokn n (remI x1 i ++ (restD x0 x1 i (d + 1) ++ E)) = ([signC (pipeN x0 i).1, signC (pipeN x0 i).2], n + (nlL (remI x1 i) : Nat) + (m : Nat), remI x1 (i + 1) ++ (restD x0 x1 (i + 1) d ++ E)) := by
      rw [tokn_lead _ _ _ w1]
      show tokn _ ((textCs (partN x0 x1 i) ++ restD x0 x1 (i + 1) d) ++ E) = _
      rw [List.append_assoc, e2]
    refine ⟨n + (nlL (remI x1 i) : Nat) + (m : Nat), ?_, ?_⟩
    · show (tokn (lexN _ i).1 (lexN _ i).2).2 = _
      rw [e]
      show (tokn n (remI x1 i ++ (restD x0 x1 i (d + 1) ++ E))).2 = _
      rw [et]
    · have : nlL (textCs (textN x0 x1 (i + 1))) = nlL (textCs (textN x0 x1 i)) + nlL (textCs (partN x0 x1 i)) := by
        show nlL (textCs (textN x0 x1 i ++ partN x0 x1 i)) = _
        rw [textCs_app, nlL_app]
      rw [this]
      omega
theorem lex_tok (x0 x1 : Int) (E : List Nat) (N i : Nat) (hi : i < N) : tokAt (textCs (textN x0 x1 N) ++ E) i = [signC (pipeN x0 i).1, signC (pipeN x0 i).2] := by
  obtain ⟨n, e, hn⟩ := lex_at x0 x1 E N i (N - i - 1 + 1) (by omega)
  obtain ⟨w1, w2⟩ := remI_ok x1 i
  obtain ⟨m, e2, hm⟩ := part_tok x0 x1 i (n + (nlL (remI x1 i) : Nat)) (restD x0 x1 (i + 1) (N - i - 1) ++ E)
  unfold tokAt
  rw [e]
  show (tokn n (remI x1 i ++ ((textCs (partN x0 x1 i) ++ restD x0 x1 (i + 1) (N - i - 1)) ++ E))).1 = _
  rw [tokn_lead _ _ _ w1, List.append_assoc, e2]
theorem end_tok (x2 : Int) (n : Int) : tokn n (textCs (endT x2)) = ([101, 110, 100], n, []) := by
  have h := fm_b x2 (n := 4) (by decide)
  unfold endT
  generalize x2.fmod 4 = x at *
  have : x = 0 ∨ x = 1 ∨ x = 2 ∨ x = 3 := by omega
  rcases this with rfl | rfl | rfl | rfl <;> kernel_rfl
theorem restD_len (x0 x1 : Int) (N i d : Nat) (h : i + d = N) : (restD x0 x1 i d).length ≤ 8 * N := by
  have h1 := restD_text x0 x1 d i
  rw [h] at h1
  have h2 := congrArg List.length h1
  rw [List.length_append] at h2
  have h3 := textN_len x0 x1 N
  have h4 : (textCs (textN x0 x1 N)).length = (textN x0 x1 N).length := by simp [textCs, Str.length]
  omega
theorem lex_all (x0 x1 x2 : Int) (N : Nat) (hN : N ≤ 100) :
    (∀ i, i ≤ N → (lexN (textCs (textN x0 x1 N ++ endT x2)) i).2.length ≤ 400000) ∧ ∃ n : Int, lexN (textCs (textN x0 x1 N ++ endT x2)) N = (n, remI x1 N ++ textCs (endT x2)) ∧ tokn n (remI x1 N ++ textCs (endT x2)) = ([101, 110, 100], 1 + Txt.count (textN x0 x1 N) "\n", []) := by
  rw [textCs_app]
  constructor
  · intro i hi
    obtain ⟨n, e, hn⟩ := lex_at x0 x1 (textCs (endT x2)) N i (N - i) (by omega)
    rw [e]
    have h1 := (remI_ok x1 i).2
    have h2 := restD_len x0 x1 N i (N - i) (by omega)
    have h3 := endT_len x2
    have h4 : (textCs (endT x2)).length = (endT x2).length := by simp [textCs, Str.length]
    simp only [List.length_append]
    omega
  · obtain ⟨n, e, hn⟩ := lex_at x0 x1 (textCs (endT x2)) N N 0 (by omega)
    refine ⟨n, e, ?_⟩
    rw [tokn_lead _ _ _ (remI_ok x1 N).1, hn, end_tok]
    have : Txt.count (textN x0 x1 N) "\n" = (nlL (textCs (textN x0 x1 N)) : Nat) := occ_count _ 10
    rw [this]
noncomputable def bF : Bool → Nat → List Nat := fun b k => if b then [k] else []
theorem fcB (t : Nat → Bool) (k : Nat) (l : List Nat) : (k :: l).filter t = bF (t k) k ++ l.filter t := by
  rw [List.filter_cons]
  cases t k <;> rfl
theorem filt6 (t : Nat → Bool) : (List.range 6).filter t = bF (t 0) 0 ++ (bF (t 1) 1 ++ (bF (t 2) 2 ++ (bF (t 3) 3 ++ (bF (t 4) 4 ++ bF (t 5) 5)))) := by
  show [0, 1, 2, 3, 4, 5].filter t = _
  rw [fcB, fcB, fcB, fcB, fcB, fcB, List.filter_nil, List.append_nil]
theorem filt5 (t : Nat → Bool) : (List.range 5).filter t = bF (t 0) 0 ++ (bF (t 1) 1 ++ (bF (t 2) 2 ++ (bF (t 3) 3 ++ bF (t 4) 4))) := by
  show [0, 1, 2, 3, 4].filter t = _
  rw [fcB, fcB, fcB, fcB, fcB, List.filter_nil, List.append_nil]
theorem bits6 : ∀ b0 b1 b2 b3 b4 b5 : Bool, bitsTo (((bF b0 0 ++ (bF b1 1 ++ (bF b2 2 ++ (bF b3 3 ++ (bF b4 4 ++ bF b5 5))))).map fun k => 2 ^ k).sum) 6 = bF b0 0 ++ (bF b1 1 ++ (bF b2 2 ++ (bF b3 3 ++ (bF b4 4 ++ bF b5 5)))) := by decide +kernel
theorem bits5 : ∀ b0 b1 b2 b3 b4 : Bool, bitsTo (((bF b0 0 ++ (bF b1 1 ++ (bF b2 2 ++ (bF b3 3 ++ bF b4 4)))).map fun k => 2 ^ k).sum) 6 = bF b0 0 ++ (bF b1 1 ++ (bF b2 2 ++ (bF b3 3 ++ bF b4 4))) := by decide +kernel
theorem bits_ends {ps : List (Int × Int)} (h : ps.length = 5 ∨ ps.length = 6) (pt : Int) : bitsTo (maskV ps pt) 6 = endsK ps pt := by
  unfold maskV endsK
  rcases h with h | h
  · rw [h, filt5]; exact bits5 _ _ _ _ _
  · rw [h, filt6]; exact bits6 _ _ _ _ _ _
theorem ends_eq {ps : List (Int × Int)} (h : ps.length = 5 ∨ ps.length = 6) {pt : Int} (h0 : 0 ≤ pt) (h1 : pt < 4) : nthL (endsV ps) pt = (endsK ps pt).map fun (k : Nat) => (k : Int) := by
  rw [nthL_endsV ps h0 h1]
  unfold endM
  rw [bits_ends h]
noncomputable def fN (fl : List Int) (k : Nat) : Nat := (nth fl (k : Nat)).toNat
noncomputable def xs (l : List Nat) : Nat := l.foldl (· ^^^ ·) 0
noncomputable def XN (ps : List (Int × Int)) (fl : List Int) (pt : Int) : Nat := xs ((endsK ps pt).map (fN fl))
theorem xs_snoc (l : List Nat) (x : Nat) : xs (l ++ [x]) = xs l ^^^ x := by unfold xs; rw [List.foldl_append]; rfl
noncomputable def Fl4 (fl : List Int) : Prop := ∀ k : Nat, 0 ≤ nth fl (k : Nat) ∧ nth fl (k : Nat) < 4
theorem fN_lt {fl : List Int} (h : Fl4 fl) (k : Nat) : fN fl k < 4 := by unfold fN; have := h k; omega
theorem xor4 {a b : Nat} (ha : a < 4) (hb : b < 4) : a ^^^ b < 4 := Nat.xor_lt_two_pow (n := 2) ha hb
theorem xs_lt : ∀ l : List Nat, (∀ x ∈ l, x < 4) → xs l < 4 := fun l => by
  suffices ∀ (l : List Nat) (a : Nat), a < 4 → (∀ x ∈ l, x < 4) → l.foldl (· ^^^ ·) a < 4 from this l 0 (by decide)
  intro l
  induction l with
  | nil => intro a ha _; exact ha
  | cons x l ih => intro a ha h; exact ih _ (xor4 ha (h x (.head _))) fun y hy => h y (.tail _ hy)
theorem XN_lt {ps fl pt} (h : Fl4 fl) : XN ps fl pt < 4 := xs_lt _ fun x hx => by
  obtain ⟨k, _, rfl⟩ := List.mem_map.mp hx
  exact fN_lt h k
theorem bx {a b : Int} (ha : 0 ≤ a ∧ a < 4) (hb : 0 ≤ b ∧ b < 4) : Builtin.bitXor a b = ((a.toNat ^^^ b.toNat : Nat) : Int) := by
  have := xor_ok (a := a.toNat) (b := b.toNat) (by omega) (by omega)
  rwa [Int.toNat_of_nonneg ha.1, Int.toNat_of_nonneg hb.1] at this
theorem px_go {ps : List (Int × Int)} {fl : List Int} {j : Nat} (hf : Fl4 fl) (hlt : j < fl.length) (h0 : nth fl (j : Nat) = 0) : ∀ m : Nat, pxIn ps ((j : Int) + 1) fl m = fl.set j (xs (((List.range m).filter fun k => oddP (nthP ps (k : Nat)) ((j : Int) + 1)).map (fN fl)) : Nat)
  | 0 => by
    show fl = fl.set j 0
    have e : fl[j] = 0 := by
      have : nth fl (j : Nat) = fl[j] := by simp [nth, hlt]
      rw [← this]; exact h0
    rw [← e, List.set_getElem_self]
  | m + 1 => by
    have ih := px_go hf hlt h0 (ps := ps) m
    have ej : ((j : Int) + 1 - 1).toNat = j := by omega
    have lt : xs (((List.range m).filter fun k => oddP (nthP ps (k : Nat)) ((j : Int) + 1)).map (fN fl)) < 4 := xs_lt _ fun x hx => by
      obtain ⟨k, _, rfl⟩ := List.mem_map.mp hx
      exact fN_lt hf k
    unfold pxIn
    rw [ih, List.range_succ, List.filter_append, List.map_append]
    generalize hX : xs (((List.range m).filter fun k => oddP (nthP ps (k : Nat)) ((j : Int) + 1)).map (fN fl)) = X at *
    unfold pxIf
    cases ho : oddP (nthP ps (m : Nat)) ((j : Int) + 1) with
    | false =>
      have ho' : (((nthP ps (m : Nat)).1 == (j : Int) + 1) != ((nthP ps (m : Nat)).2 == (j : Int) + 1)) = false := ho
      rw [ho']
      simp [List.filter, ho, hX]
    | true =>
      have ho' : (((nthP ps (m : Nat)).1 == (j : Int) + 1) != ((nthP ps (m : Nat)).2 == (j : Int) + 1)) = true := ho
      rw [ho', Bool.true_and]
      have e1 : ([m].filter fun k => oddP (nthP ps (k : Nat)) ((j : Int) + 1)).map (fN fl) = [fN fl m] := by simp [List.filter, ho]
      rw [e1, xs_snoc, hX]
      by_cases q : m = j
      · subst q
        have : ((m : Int) != (m : Int) + 1 - 1) = false := by simp
        rw [this]
        have : fN fl m = 0 := by unfold fN; rw [h0]; rfl
        rw [this]; simp
      · have : ((m : Int) != (j : Int) + 1 - 1) = true := by simp; omega
        rw [this]
        simp only [if_true, ej]
        have e2 : ((j : Int) + 1 - 1) = ((j : Nat) : Int) := by omega
        rw [e2, nth_set, nth_set, if_pos ⟨rfl, hlt⟩, if_neg (fun h => q h.1.symm), List.set_set, bx ⟨by omega, by omega⟩ (hf m)]
        rfl
theorem px_eq {ps : List (Int × Int)} {fl : List Int} {j : Nat} (hf : Fl4 fl) (hlt : j < fl.length) (h0 : nth fl (j : Nat) = 0) : pxIn ps ((j : Int) + 1) fl ps.length = fl.set j (XN ps fl ((j : Int) + 1) : Nat) := px_go hf hlt h0 ps.length
noncomputable def par3 (b : Nat × Nat × Nat) (v : Nat) : Nat × Nat × Nat := ((b.1 + if v = 1 then 1 else 0) % 2, (b.2.1 + if v = 2 then 1 else 0) % 2, (b.2.2 + if v = 3 then 1 else 0) % 2)
noncomputable def oddT (b : Nat × Nat × Nat) : Nat := (oddOne b.1 b.2.1 b.2.2).toNat
theorem par3_ok : ∀ a < 2, ∀ b < 2, ∀ c < 2, ∀ v < 4, oddT (par3 (a, b, c) v) = oddT (a, b, c) ^^^ v := by decide +kernel
noncomputable def cntN (l : List Nat) (h : Nat) : Nat := l.count h
theorem mod_step (a n : Nat) (p : Prop) [Decidable p] : (a + (n + if p then 1 else 0)) % 2 = ((a + if p then 1 else 0) % 2 + n) % 2 := by
  split <;> omega
theorem cnt3 : ∀ l : List Nat, (∀ x ∈ l, x < 4) → ∀ a b c : Nat, a < 2 → b < 2 → c < 2 → oddT ((a + l.count 1) % 2, (b + l.count 2) % 2, (c + l.count 3) % 2) = l.foldl (· ^^^ ·) (oddT (a, b, c))
  | [], _, a, b, c, ha, hb, hc => by
    simp [Nat.mod_eq_of_lt ha, Nat.mod_eq_of_lt hb, Nat.mod_eq_of_lt hc]
  | v :: l, h, a, b, c, ha, hb, hc => by
    rw [List.foldl_cons, ← par3_ok a ha b hb c hc v (h v (.head _))]
    have ih := cnt3 l (fun x hx => h x (.tail _ hx)) (par3 (a, b, c) v).1 (par3 (a, b, c) v).2.1 (par3 (a, b, c) v).2.2 (Nat.mod_lt _ (by decide)) (Nat.mod_lt _ (by decide)) (Nat.mod_lt _ (by decide))
    have e : ((par3 (a, b, c) v).1, (par3 (a, b, c) v).2.1, (par3 (a, b, c) v).2.2) = par3 (a, b, c) v := rfl
    rw [e] at ih
    rw [← ih]
    congr 1
    simp only [par3, List.count_cons, beq_iff_eq]
    refine Prod.ext ?_ (Prod.ext ?_ ?_)
    all_goals (first | exact mod_step _ _ _ | exact (mod_step _ _ _).symm)
theorem sum_ind (g : Nat → Bool) : ∀ l : List Nat, (l.map fun i => if g i then (1 : Int) else 0).sum = ((l.filter g).length : Nat)
  | [] => rfl
  | x :: l => by
    rw [List.map_cons, List.sum_cons, sum_ind g l, List.filter_cons]
    cases g x <;> simp; omega
theorem cnt_eq (ks : List Nat) (fl : List Int) (hf : Fl4 fl) (h : Nat) : cntH (ks.map fun (k : Nat) => (k : Int)) fl (h : Nat) = ((ks.map (fN fl)).count h : Nat) := by
  unfold cntH
  rw [List.length_map]
  have e : ((List.range ks.length).map fun (i : Nat) => if nth fl (nth (ks.map fun (k : Nat) => (k : Int)) (i : Nat)) == (h : Int) then (1 : Int) else 0) = ks.map fun k => if nth fl (k : Nat) == (h : Int) then (1 : Int) else 0 := by
    refine Eq.trans (List.map_congr_left fun i hi => ?_) (map_range_natAt ks fun k => if nth fl (k : Nat) == (h : Int) then (1 : Int) else 0)
    have hi := List.mem_range.mp hi
    have : nth (ks.map fun (k : Nat) => (k : Int)) (i : Nat) = (natAt ks i : Nat) := by simp [nth, natAt, hi]
    rw [this]
  rw [e, sum_ind (fun k => nth fl (k : Nat) == (h : Int))]
  rw [List.count, List.countP_map, List.countP_eq_length_filter]
  congr 2
  refine List.filter_congr fun k _ => ?_
  have := hf k
  simp only [fN, Function.comp]
  rw [Bool.eq_iff_iff]
  simp only [beq_iff_eq]
  omega
theorem hue_eq {ps : List (Int × Int)} (hl : ps.length = 5 ∨ ps.length = 6) {fl : List Int} (hf : Fl4 fl) {pt : Int} (h0 : 0 ≤ pt) (h1 : pt < 4) : cHue (endsV ps) fl pt = (XN ps fl pt : Nat) := by
  unfold cHue
  rw [ends_eq hl h0 h1]
  have p : ∀ h : Nat, parH ((endsK ps pt).map fun (k : Nat) => (k : Int)) fl (h : Nat) = ((((endsK ps pt).map (fN fl)).count h % 2 : Nat) : Int) := fun h => by
    unfold parH
    rw [cnt_eq _ _ hf, Int.fmod_eq_emod_of_nonneg _ (by decide)]; omega
  have p1 : parH ((endsK ps pt).map fun (k : Nat) => (k : Int)) fl 1 = _ := p 1
  have p2 : parH ((endsK ps pt).map fun (k : Nat) => (k : Int)) fl 2 = _ := p 2
  have p3 : parH ((endsK ps pt).map fun (k : Nat) => (k : Int)) fl 3 = _ := p 3
  rw [p1, p2, p3]
  have h3 := cnt3 ((endsK ps pt).map (fN fl)) (fun x hx => by
    obtain ⟨k, _, rfl⟩ := List.mem_map.mp hx
    exact fN_lt hf k) 0 0 0 (by decide) (by decide) (by decide)
  simp only [Nat.zero_add] at h3
  have h4 : oddT (0, 0, 0) = 0 := by decide
  rw [h4] at h3
  unfold XN xs
  rw [← h3]
  unfold oddT
  rw [Int.toNat_of_nonneg]
  unfold oddOne
  split <;> split <;> decide
theorem foldl_xor : ∀ (l : List Nat) (a : Nat), l.foldl (· ^^^ ·) a = a ^^^ l.foldl (· ^^^ ·) 0
  | [], a => by simp
  | x :: l, a => by
    rw [List.foldl_cons, List.foldl_cons, foldl_xor l (a ^^^ x), foldl_xor l (0 ^^^ x), Nat.zero_xor, Nat.xor_assoc]
theorem xs_cons (x : Nat) (l : List Nat) : xs (x :: l) = x ^^^ xs l := by
  unfold xs
  rw [List.foldl_cons, foldl_xor]; simp
theorem xs_bF (b : Bool) (k : Nat) (L : List Nat) (f : Nat → Nat) : xs ((bF b k ++ L).map f) = (if b then f k else 0) ^^^ xs (L.map f) := by
  cases b
  · simp [bF]
  · show xs (f k :: L.map f) = _
    rw [xs_cons]; rfl
theorem xs_bF1 (b : Bool) (k : Nat) (f : Nat → Nat) : xs ((bF b k).map f) = (if b then f k else 0) := by
  cases b
  · rfl
  · show xs [f k] = _
    rw [xs_cons]; simp [xs]
noncomputable def gP (p : Int × Int) (pt : Int) (f : Nat) : Nat := if oddP p pt then f else 0
theorem XN5 (p0 p1 p2 p3 p4 : Int × Int) (y0 y1 y2 f3 f4 : Int) (pt : Int) : XN [p0, p1, p2, p3, p4] [y0, y1, y2, f3, f4] pt = gP p0 pt y0.toNat ^^^ (gP p1 pt y1.toNat ^^^ (gP p2 pt y2.toNat ^^^ (gP p3 pt f3.toNat ^^^ gP p4 pt f4.toNat))) := by
  unfold XN endsK
  show xs (((List.range 5).filter _).map _) = _
  rw [filt5, xs_bF, xs_bF, xs_bF, xs_bF, xs_bF1]
  rfl
theorem XN6 (p0 p1 p2 p3 p4 p5 : Int × Int) (y0 y1 y2 f3 f4 f5 : Int) (pt : Int) : XN [p0, p1, p2, p3, p4, p5] [y0, y1, y2, f3, f4, f5] pt = gP p0 pt y0.toNat ^^^ (gP p1 pt y1.toNat ^^^ (gP p2 pt y2.toNat ^^^ (gP p3 pt f3.toNat ^^^ (gP p4 pt f4.toNat ^^^ gP p5 pt f5.toNat)))) := by
  unfold XN endsK
  show xs (((List.range 6).filter _).map _) = _
  rw [filt6, xs_bF, xs_bF, xs_bF, xs_bF, xs_bF, xs_bF1]
  rfl
theorem Fl4.set {fl : List Int} (h : Fl4 fl) {v : Nat} (hv : v < 4) (j : Nat) : Fl4 (fl.set j (v : Int)) := fun k => by
  rw [nth_set]
  split
  · omega
  · exact h k
section
variable (ps : List (Int × Int)) (ch : List Int)
noncomputable def v3 : Nat := XN ps (0 :: 0 :: 0 :: ch) 3
noncomputable def v2 : Nat := XN ps (0 :: 0 :: (v3 ps ch : Int) :: ch) 2
noncomputable def v1 : Nat := XN ps (0 :: (v2 ps ch : Int) :: (v3 ps ch : Int) :: ch) 1
noncomputable def v0 : Nat := XN ps ((v1 ps ch : Int) :: (v2 ps ch : Int) :: (v3 ps ch : Int) :: ch) 0
variable {ps ch} (h : Fl4 (0 :: 0 :: 0 :: ch))
include h
theorem v3_lt : v3 ps ch < 4 := XN_lt h
theorem fl1_4 : Fl4 (0 :: 0 :: (v3 ps ch : Int) :: ch) := h.set (v3_lt h) 2
theorem v2_lt : v2 ps ch < 4 := XN_lt (fl1_4 h)
theorem fl2_4 : Fl4 (0 :: (v2 ps ch : Int) :: (v3 ps ch : Int) :: ch) := (fl1_4 h).set (v2_lt h) 1
theorem v1_lt : v1 ps ch < 4 := XN_lt (fl2_4 h)
theorem fl3_4 : Fl4 ((v1 ps ch : Int) :: (v2 ps ch : Int) :: (v3 ps ch : Int) :: ch) := (fl2_4 h).set (v1_lt h) 0
theorem plain_eq : plain ps ch = if v3 ps ch = 0 then 0 else if v2 ps ch = 0 then 0 else if v1 ps ch = 0 then 0 else 1 := by
  have e1 : pxIn ps 3 (0 :: 0 :: 0 :: ch) ps.length = 0 :: 0 :: (v3 ps ch : Int) :: ch := px_eq (j := 2) h (by simp) rfl
  have e2 : pxIn ps 2 (0 :: 0 :: (v3 ps ch : Int) :: ch) ps.length = 0 :: (v2 ps ch : Int) :: (v3 ps ch : Int) :: ch := px_eq (j := 1) (fl1_4 h) (by simp) rfl
  have e3 : pxIn ps 1 (0 :: (v2 ps ch : Int) :: (v3 ps ch : Int) :: ch) ps.length = (v1 ps ch : Int) :: (v2 ps ch : Int) :: (v3 ps ch : Int) :: ch := px_eq (j := 0) (fl2_4 h) (by simp) rfl
  have s1 : plSt ps ch 1 = if v3 ps ch = 0 then none else some (0 :: 0 :: (v3 ps ch : Int) :: ch) := by
    show (if nth (pxIn ps 3 (0 :: 0 :: 0 :: ch) ps.length) 2 == 0 then none else some (pxIn ps 3 (0 :: 0 :: 0 :: ch) ps.length)) = _
    rw [e1]
    show (if ((v3 ps ch : Int) == 0) = true then none else some _) = _
    by_cases q : v3 ps ch = 0
    · rw [if_pos (by simp [q]), if_pos q]
    · rw [if_neg (by simp [q]), if_neg q]
  have s2 : plSt ps ch 2 = if v3 ps ch = 0 then none else if v2 ps ch = 0 then none else some (0 :: (v2 ps ch : Int) :: (v3 ps ch : Int) :: ch) := by
    show (match plSt ps ch 1 with | none => none | some fl => if nth (pxIn ps 2 fl ps.length) 1 == 0 then none else some (pxIn ps 2 fl ps.length)) = _
    rw [s1]
    by_cases q : v3 ps ch = 0
    · rw [if_pos q, if_pos q]
    · rw [if_neg q, if_neg q]
      show (if nth (pxIn ps 2 (0 :: 0 :: (v3 ps ch : Int) :: ch) ps.length) 1 == 0 then none else some (pxIn ps 2 (0 :: 0 :: (v3 ps ch : Int) :: ch) ps.length)) = _
      rw [e2]
      show (if ((v2 ps ch : Int) == 0) = true then none else some _) = _
      by_cases q : v2 ps ch = 0
      · rw [if_pos (by simp [q]), if_pos q]
      · rw [if_neg (by simp [q]), if_neg q]
  have s3 : plSt ps ch 3 = if v3 ps ch = 0 then none else if v2 ps ch = 0 then none else if v1 ps ch = 0 then none else some ((v1 ps ch : Int) :: (v2 ps ch : Int) :: (v3 ps ch : Int) :: ch) := by
    show (match plSt ps ch 2 with | none => none | some fl => if nth (pxIn ps 1 fl ps.length) 0 == 0 then none else some (pxIn ps 1 fl ps.length)) = _
    rw [s2]
    by_cases q : v3 ps ch = 0
    · rw [if_pos q, if_pos q]
    · rw [if_neg q, if_neg q]
      by_cases q2 : v2 ps ch = 0
      · rw [if_pos q2, if_pos q2]
      · rw [if_neg q2, if_neg q2]
        show (if nth (pxIn ps 1 (0 :: (v2 ps ch : Int) :: (v3 ps ch : Int) :: ch) ps.length) 0 == 0 then none else some (pxIn ps 1 (0 :: (v2 ps ch : Int) :: (v3 ps ch : Int) :: ch) ps.length)) = _
        rw [e3]
        show (if ((v1 ps ch : Int) == 0) = true then none else some _) = _
        by_cases q : v1 ps ch = 0
        · rw [if_pos (by simp [q]), if_pos q]
        · rw [if_neg (by simp [q]), if_neg q]
  unfold plain
  rw [s3]
  by_cases q : v3 ps ch = 0
  · rw [if_pos q, if_pos q]
  · rw [if_neg q, if_neg q]
    by_cases q2 : v2 ps ch = 0
    · rw [if_pos q2, if_pos q2]
    · rw [if_neg q2, if_neg q2]
      by_cases q3 : v1 ps ch = 0
      · rw [if_pos q3, if_pos q3]
      · rw [if_neg q3, if_neg q3]
theorem colours_eq (hl : ps.length = 5 ∨ ps.length = 6) : colours (endsV ps) ch = if v3 ps ch = 0 then 0 else if v2 ps ch = 0 then 0 else if v1 ps ch = 0 then 0 else if v0 ps ch = 0 then 1 else 0 := by
  have e1 : cHue (endsV ps) (0 :: 0 :: 0 :: ch) 3 = (v3 ps ch : Nat) := hue_eq hl h (by decide) (by decide)
  have e2 : cHue (endsV ps) (0 :: 0 :: (v3 ps ch : Int) :: ch) 2 = (v2 ps ch : Nat) := hue_eq hl (fl1_4 h) (by decide) (by decide)
  have e3 : cHue (endsV ps) (0 :: (v2 ps ch : Int) :: (v3 ps ch : Int) :: ch) 1 = (v1 ps ch : Nat) := hue_eq hl (fl2_4 h) (by decide) (by decide)
  have e0 : cHue (endsV ps) ((v1 ps ch : Int) :: (v2 ps ch : Int) :: (v3 ps ch : Int) :: ch) 0 = (v0 ps ch : Nat) := hue_eq hl (fl3_4 h) (by decide) (by decide)
  have s1 : cSt (endsV ps) ch 1 = if v3 ps ch = 0 then none else some (0 :: 0 :: (v3 ps ch : Int) :: ch) := by
    show (if cHue (endsV ps) (0 :: 0 :: 0 :: ch) 3 == 0 then none else some (0 :: 0 :: cHue (endsV ps) (0 :: 0 :: 0 :: ch) 3 :: ch)) = _
    rw [e1]
    by_cases q : v3 ps ch = 0
    · rw [if_pos (by simp [q]), if_pos q]
    · rw [if_neg (by simp [q]), if_neg q]
  have s2 : cSt (endsV ps) ch 2 = if v3 ps ch = 0 then none else if v2 ps ch = 0 then none else some (0 :: (v2 ps ch : Int) :: (v3 ps ch : Int) :: ch) := by
    show (match cSt (endsV ps) ch 1 with | none => none | some fl => if cHue (endsV ps) fl 2 == 0 then none else some (cFl (endsV ps) fl 2)) = _
    rw [s1]
    by_cases q : v3 ps ch = 0
    · rw [if_pos q, if_pos q]
    · rw [if_neg q, if_neg q]
      show (if cHue (endsV ps) (0 :: 0 :: (v3 ps ch : Int) :: ch) 2 == 0 then none else some (0 :: cHue (endsV ps) (0 :: 0 :: (v3 ps ch : Int) :: ch) 2 :: (v3 ps ch : Int) :: ch)) = _
      rw [e2]
      by_cases q : v2 ps ch = 0
      · rw [if_pos (by simp [q]), if_pos q]
      · rw [if_neg (by simp [q]), if_neg q]
  have s3 : cSt (endsV ps) ch 3 = if v3 ps ch = 0 then none else if v2 ps ch = 0 then none else if v1 ps ch = 0 then none else some ((v1 ps ch : Int) :: (v2 ps ch : Int) :: (v3 ps ch : Int) :: ch) := by
    show (match cSt (endsV ps) ch 2 with | none => none | some fl => if cHue (endsV ps) fl 1 == 0 then none else some (cFl (endsV ps) fl 1)) = _
    rw [s2]
    by_cases q : v3 ps ch = 0
    · rw [if_pos q, if_pos q]
    · rw [if_neg q, if_neg q]
      by_cases q2 : v2 ps ch = 0
      · rw [if_pos q2, if_pos q2]
      · rw [if_neg q2, if_neg q2]
        show (if cHue (endsV ps) (0 :: (v2 ps ch : Int) :: (v3 ps ch : Int) :: ch) 1 == 0 then none else some (cHue (endsV ps) (0 :: (v2 ps ch : Int) :: (v3 ps ch : Int) :: ch) 1 :: (v2 ps ch : Int) :: (v3 ps ch : Int) :: ch)) = _
        rw [e3]
        by_cases q : v1 ps ch = 0
        · rw [if_pos (by simp [q]), if_pos q]
        · rw [if_neg (by simp [q]), if_neg q]
  unfold colours
  rw [s3]
  by_cases q : v3 ps ch = 0
  · rw [if_pos q, if_pos q]
  · rw [if_neg q, if_neg q]
    by_cases q2 : v2 ps ch = 0
    · rw [if_pos q2, if_pos q2]
    · rw [if_neg q2, if_neg q2]
      by_cases q3 : v1 ps ch = 0
      · rw [if_pos q3, if_pos q3]
      · rw [if_neg q3, if_neg q3]
        show (if (cHue (endsV ps) ((v1 ps ch : Int) :: (v2 ps ch : Int) :: (v3 ps ch : Int) :: ch) 0 == 0) = true then (1 : Int) else 0) = _
        rw [e0]
        by_cases q : v0 ps ch = 0
        · rw [if_pos (by simp [q]), if_pos q]
        · rw [if_neg (by simp [q]), if_neg q]
end
noncomputable def cP (p : Int × Int) (pt : Int) : Int := (if p.1 == pt then 1 else 0) - (if p.2 == pt then 1 else 0)
theorem net_sum {ps : List (Int × Int)} (hl : ps.length = 5 ∨ ps.length = 6) (fl : List Int) {pt : Int} (h0 : 0 ≤ pt) (h1 : pt < 4) : net ps (endsV ps) fl pt = ((endsK ps pt).map fun (k : Nat) => netAt ps fl pt (k : Nat)).sum := by
  unfold net
  rw [ends_eq hl h0 h1, List.length_map]
  congr 1
  refine Eq.trans (List.map_congr_left fun i hi => ?_) (map_range_natAt (endsK ps pt) fun k => netAt ps fl pt (k : Nat))
  have hi := List.mem_range.mp hi
  have : nth ((endsK ps pt).map fun (k : Nat) => (k : Int)) (i : Nat) = (natAt (endsK ps pt) i : Nat) := by simp [nth, natAt, hi]
  rw [this]
theorem sm_bF (b : Bool) (k : Nat) (L : List Nat) (f : Nat → Int) : ((bF b k ++ L).map f).sum = (if b then f k else 0) + (L.map f).sum := by
  cases b
  · simp [bF]
  · simp [bF]
theorem sm_bF1 (b : Bool) (k : Nat) (f : Nat → Int) : ((bF b k).map f).sum = (if b then f k else 0) := by
  cases b <;> simp [bF]
theorem cP_odd (p : Int × Int) (pt y : Int) : (if oddP p pt = true then (if (p.1 == pt) = true then y else -y) else 0) = cP p pt * y := by
  unfold oddP cP
  cases p.1 == pt <;> cases p.2 == pt <;> simp
theorem net5 (p0 p1 p2 p3 p4 : Int × Int) (y0 y1 y2 f3 f4 : Int) {pt : Int} (h0 : 0 ≤ pt) (h1 : pt < 4) : net [p0, p1, p2, p3, p4] (endsV [p0, p1, p2, p3, p4]) [y0, y1, y2, f3, f4] pt = cP p0 pt * y0 + (cP p1 pt * y1 + (cP p2 pt * y2 + (cP p3 pt * f3 + cP p4 pt * f4))) := by
  rw [net_sum (.inl rfl) _ h0 h1]
  unfold endsK
  show (((List.range 5).filter _).map _).sum = _
  rw [filt5, sm_bF, sm_bF, sm_bF, sm_bF, sm_bF1, ← cP_odd, ← cP_odd, ← cP_odd, ← cP_odd, ← cP_odd]
  rfl
theorem net6 (p0 p1 p2 p3 p4 p5 : Int × Int) (y0 y1 y2 f3 f4 f5 : Int) {pt : Int} (h0 : 0 ≤ pt) (h1 : pt < 4) : net [p0, p1, p2, p3, p4, p5] (endsV [p0, p1, p2, p3, p4, p5]) [y0, y1, y2, f3, f4, f5] pt = cP p0 pt * y0 + (cP p1 pt * y1 + (cP p2 pt * y2 + (cP p3 pt * f3 + (cP p4 pt * f4 + cP p5 pt * f5)))) := by
  rw [net_sum (.inr rfl) _ h0 h1]
  unfold endsK
  show (((List.range 6).filter _).map _).sum = _
  rw [filt6, sm_bF, sm_bF, sm_bF, sm_bF, sm_bF, sm_bF1, ← cP_odd, ← cP_odd, ← cP_odd, ← cP_odd, ← cP_odd, ← cP_odd]
  rfl
section
variable (ps : List (Int × Int)) (es : List (List Int)) (ch : List Int)
noncomputable def w3 : Int := (qDue ps es (0 :: 0 :: 0 :: ch) 3).fmod 4
noncomputable def w2 : Int := (qDue ps es (0 :: 0 :: w3 ps es ch :: ch) 2).fmod 4
noncomputable def w1 : Int := (qDue ps es (0 :: w2 ps es ch :: w3 ps es ch :: ch) 1).fmod 4
noncomputable def w0 : Int := (net ps es (w1 ps es ch :: w2 ps es ch :: w3 ps es ch :: ch) 0).fmod 4
end
theorem bad_iff (d x : Int) (hx : x = d.fmod 4) : ((d.fdiv 4 * 4 + x != d) || !(decide (0 < x) && decide (x < 4))) = (x == 0) := by
  subst hx
  rw [Int.fmod_eq_emod_of_nonneg _ (by decide), Int.fdiv_eq_ediv_of_nonneg _ (by decide)]
  have e : (d / 4 * 4 + d % 4 != d) = false := by simp; omega
  rw [e, Bool.false_or, Bool.eq_iff_iff]
  simp
  omega
theorem quarters_eq (ps : List (Int × Int)) (es : List (List Int)) (ch : List Int) : quarters ps es ch = if w3 ps es ch = 0 then 0 else if w2 ps es ch = 0 then 0 else if w1 ps es ch = 0 then 0 else if w0 ps es ch = 0 then 1 else 0 := by
  have b3 : qBad ps es (0 :: 0 :: 0 :: ch) 3 = (w3 ps es ch == 0) := bad_iff (qDue ps es (0 :: 0 :: 0 :: ch) 3) _ rfl
  have b2 : qBad ps es (0 :: 0 :: w3 ps es ch :: ch) 2 = (w2 ps es ch == 0) := bad_iff (qDue ps es (0 :: 0 :: w3 ps es ch :: ch) 2) _ rfl
  have b1 : qBad ps es (0 :: w2 ps es ch :: w3 ps es ch :: ch) 1 = (w1 ps es ch == 0) := bad_iff (qDue ps es (0 :: w2 ps es ch :: w3 ps es ch :: ch) 1) _ rfl
  have s1 : qSt ps es ch 1 = if w3 ps es ch = 0 then none else some (0 :: 0 :: w3 ps es ch :: ch) := by
    show (if qBad ps es (0 :: 0 :: 0 :: ch) 3 then none else some (0 :: 0 :: w3 ps es ch :: ch)) = _
    rw [b3]
    by_cases q : w3 ps es ch = 0
    · rw [if_pos (by simp [q]), if_pos q]
    · rw [if_neg (by simp [q]), if_neg q]
  have s2 : qSt ps es ch 2 = if w3 ps es ch = 0 then none else if w2 ps es ch = 0 then none else some (0 :: w2 ps es ch :: w3 ps es ch :: ch) := by
    show (match qSt ps es ch 1 with | none => none | some fl => if qBad ps es fl 2 then none else some (qFl ps es fl 2)) = _
    rw [s1]
    by_cases q : w3 ps es ch = 0
    · rw [if_pos q, if_pos q]
    · rw [if_neg q, if_neg q]
      show (if qBad ps es (0 :: 0 :: w3 ps es ch :: ch) 2 then none else some (0 :: w2 ps es ch :: w3 ps es ch :: ch)) = _
      rw [b2]
      by_cases q : w2 ps es ch = 0
      · rw [if_pos (by simp [q]), if_pos q]
      · rw [if_neg (by simp [q]), if_neg q]
  have s3 : qSt ps es ch 3 = if w3 ps es ch = 0 then none else if w2 ps es ch = 0 then none else if w1 ps es ch = 0 then none else some (w1 ps es ch :: w2 ps es ch :: w3 ps es ch :: ch) := by
    show (match qSt ps es ch 2 with | none => none | some fl => if qBad ps es fl 1 then none else some (qFl ps es fl 1)) = _
    rw [s2]
    by_cases q : w3 ps es ch = 0
    · rw [if_pos q, if_pos q]
    · rw [if_neg q, if_neg q]
      by_cases q2 : w2 ps es ch = 0
      · rw [if_pos q2, if_pos q2]
      · rw [if_neg q2, if_neg q2]
        show (if qBad ps es (0 :: w2 ps es ch :: w3 ps es ch :: ch) 1 then none else some (w1 ps es ch :: w2 ps es ch :: w3 ps es ch :: ch)) = _
        rw [b1]
        by_cases q : w1 ps es ch = 0
        · rw [if_pos (by simp [q]), if_pos q]
        · rw [if_neg (by simp [q]), if_neg q]
  unfold quarters
  rw [s3]
  by_cases q : w3 ps es ch = 0
  · rw [if_pos q, if_pos q]
  · rw [if_neg q, if_neg q]
    by_cases q2 : w2 ps es ch = 0
    · rw [if_pos q2, if_pos q2]
    · rw [if_neg q2, if_neg q2]
      by_cases q3 : w1 ps es ch = 0
      · rw [if_pos q3, if_pos q3]
      · rw [if_neg q3, if_neg q3]
        show (if (w0 ps es ch == 0) = true then (1 : Int) else 0) = _
        by_cases q : w0 ps es ch = 0
        · rw [if_pos (by simp [q]), if_pos q]
        · rw [if_neg (by simp [q]), if_neg q]
structure Tree (p0 p1 p2 : Int × Int) (e1 e2 e3 : Int) (q2 : Bool) (q3 : Nat) : Prop where
  h1 : e1 = 1 ∨ e1 = -1
  h2 : e2 = 1 ∨ e2 = -1
  h3 : e3 = 1 ∨ e3 = -1
  hq : q3 = 0 ∨ q3 = 1 ∨ q3 = 2
  a3 : cP p0 3 = 0 ∧ cP p1 3 = 0 ∧ cP p2 3 = e3
  a2 : cP p0 2 = 0 ∧ cP p1 2 = e2 ∧ cP p2 2 = if q3 = 2 then -e3 else 0
  a1 : cP p0 1 = e1 ∧ cP p1 1 = (if q2 then -e2 else 0) ∧ cP p2 1 = if q3 = 1 then -e3 else 0
  a0 : cP p0 0 = -e1 ∧ cP p1 0 = (if q2 then 0 else -e2) ∧ cP p2 0 = if q3 = 0 then -e3 else 0
  s3 : (if p2.1 == 3 then (-1 : Int) else 1) = -e3
  s2 : (if p1.1 == 2 then (-1 : Int) else 1) = -e2
  s1 : (if p0.1 == 1 then (-1 : Int) else 1) = -e1
  o3 : oddP p0 3 = false ∧ oddP p1 3 = false ∧ oddP p2 3 = true
  o2 : oddP p0 2 = false ∧ oddP p1 2 = true ∧ oddP p2 2 = (q3 == 2)
  o1 : oddP p0 1 = true ∧ oddP p1 1 = q2 ∧ oddP p2 1 = (q3 == 1)
  o0 : oddP p0 0 = true ∧ oddP p1 0 = !q2 ∧ oddP p2 0 = (q3 == 0)
noncomputable def T2 (q2 : Bool) (q3 : Nat) (F3 F2 : Int) : Int := F2 + if q3 = 2 then F3 else 0
noncomputable def T1 (q2 : Bool) (q3 : Nat) (F3 F2 F1 : Int) : Int := F1 + (if q2 then T2 q2 q3 F3 F2 else 0) + if q3 = 1 then F3 else 0
theorem sg_zero {e x Y : Int} (he : e = 1 ∨ e = -1) (h : x = (Y * -e) % 4) : x = 0 ↔ Y % 4 = 0 := by
  rcases he with q | q <;> subst q <;> omega
theorem sg_back {e x Y : Int} (he : e = 1 ∨ e = -1) (h : x = (Y * -e) % 4) : ∃ k : Int, -e * x = Y + 4 * k := by
  refine ⟨(-e * x - Y) / 4, ?_⟩
  rcases he with q | q <;> subst q <;> omega
theorem sg_step {e x a b k : Int} (he : e = 1 ∨ e = -1) (h : x = (a * -e) % 4) (hk : a = b + 4 * k) : x = (b * -e) % 4 := by
  subst hk
  rcases he with q | q <;> subst q <;> omega
theorem sg_if {e x Y : Int} (q : Prop) [Decidable q] (he : e = 1 ∨ e = -1) (h : x = (Y * -e) % 4) : ∃ k : Int, (if q then -e else 0) * x = (if q then Y else 0) + 4 * k := by
  by_cases hq : q
  · rw [if_pos hq, if_pos hq]; exact sg_back he h
  · rw [if_neg hq, if_neg hq]; exact ⟨0, by rw [Int.zero_mul]; rfl⟩
theorem sg_else {e x Y : Int} (q : Prop) [Decidable q] (he : e = 1 ∨ e = -1) (h : x = (Y * -e) % 4) : ∃ k : Int, (if q then 0 else -e) * x = (if q then 0 else Y) + 4 * k := by
  by_cases hq : q
  · rw [if_pos hq, if_pos hq]; exact ⟨0, by rw [Int.zero_mul]; rfl⟩
  · rw [if_neg hq, if_neg hq]; exact sg_back he h
theorem sg_q3 {q3 : Nat} (hq : q3 = 0 ∨ q3 = 1 ∨ q3 = 2) (G : Int) : (if q3 = 2 then G else 0) + (if q3 = 1 then G else 0) + (if q3 = 0 then G else 0) = G := by
  rcases hq with h | h | h <;> subst h <;> simp
theorem sg_q2 (q2 : Bool) (T : Int) : (if q2 then T else 0) + (if q2 then 0 else T) = T := by
  cases q2 <;> simp
theorem quarters_tree {p0 p1 p2 : Int × Int} {ps : List (Int × Int)} {es : List (List Int)} {ch : List Int} {e1 e2 e3 : Int} {q2 : Bool} {q3 : Nat} (t : Tree p0 p1 p2 e1 e2 e3 q2 q3) (F : Int → Int) (hp : nthP ps 0 = p0 ∧ nthP ps 1 = p1 ∧ nthP ps 2 = p2)
    (hn : ∀ (y0 y1 y2 pt : Int), 0 ≤ pt → pt < 4 → net ps es (y0 :: y1 :: y2 :: ch) pt = cP p0 pt * y0 + (cP p1 pt * y1 + (cP p2 pt * y2 + F pt))) (hF : F 0 = -(F 1 + F 2 + F 3)) :
    quarters ps es ch = if F 3 % 4 = 0 then 0 else if T2 q2 q3 (F 3) (F 2) % 4 = 0 then 0 else if T1 q2 q3 (F 3) (F 2) (F 1) % 4 = 0 then 0 else 1 := by
  have E3 : w3 ps es ch = (F 3 * -e3) % 4 := by
    unfold w3 qDue qSgn
    rw [hn 0 0 0 3 (by decide) (by decide), show (3 : Int) - 1 = 2 from rfl, hp.2.2, t.s3, Int.fmod_eq_emod_of_nonneg _ (by decide)]
    simp
  have E2 : w2 ps es ch = (((if q3 = 2 then -e3 else 0) * w3 ps es ch + F 2) * -e2) % 4 := by
    unfold w2 qDue qSgn
    rw [hn 0 0 _ 2 (by decide) (by decide), show (2 : Int) - 1 = 1 from rfl, hp.2.1, t.s2, t.a2.2.2, Int.fmod_eq_emod_of_nonneg _ (by decide)]
    simp
  have E1 : w1 ps es ch = (((if q2 then -e2 else 0) * w2 ps es ch + ((if q3 = 1 then -e3 else 0) * w3 ps es ch + F 1)) * -e1) % 4 := by
    unfold w1 qDue qSgn
    rw [hn 0 _ _ 1 (by decide) (by decide), show (1 : Int) - 1 = 0 from rfl, hp.1, t.s1, t.a1.2.1, t.a1.2.2, Int.fmod_eq_emod_of_nonneg _ (by decide)]
    simp
  have E0 : w0 ps es ch = (-e1 * w1 ps es ch + ((if q2 then 0 else -e2) * w2 ps es ch + ((if q3 = 0 then -e3 else 0) * w3 ps es ch + F 0))) % 4 := by
    unfold w0
    rw [hn _ _ _ 0 (by decide) (by decide), t.a0.1, t.a0.2.1, t.a0.2.2, Int.fmod_eq_emod_of_nonneg _ (by decide)]
  rw [quarters_eq]
  generalize w3 ps es ch = x3 at *
  generalize w2 ps es ch = x2 at *
  generalize w1 ps es ch = x1 at *
  generalize w0 ps es ch = x0 at *
  generalize F 0 = G0 at *
  generalize F 1 = G1 at *
  generalize F 2 = G2 at *
  generalize F 3 = G3 at *
  unfold T1 T2
  have h3 : x3 = 0 ↔ G3 % 4 = 0 := sg_zero t.h3 E3
  obtain ⟨k1, c1⟩ := sg_if (q3 = 2) t.h3 E3
  have E2' : x2 = ((G2 + if q3 = 2 then G3 else 0) * -e2) % 4 := sg_step t.h2 E2 (k := k1) (by rw [c1]; omega)
  have h2 := sg_zero t.h2 E2'
  obtain ⟨k2, c2⟩ := sg_if (q2 = true) t.h2 E2'
  obtain ⟨k3, c3⟩ := sg_if (q3 = 1) t.h3 E3
  have E1' : x1 = ((G1 + (if q2 then G2 + (if q3 = 2 then G3 else 0) else 0) + if q3 = 1 then G3 else 0) * -e1) % 4 := sg_step t.h1 E1 (k := k2 + k3) (by rw [c2, c3]; omega)
  have h1 := sg_zero t.h1 E1'
  have h0 : x0 = 0 := by
    obtain ⟨k4, c4⟩ := sg_back t.h1 E1'
    obtain ⟨k5, c5⟩ := sg_else (q2 = true) t.h2 E2'
    obtain ⟨k6, c6⟩ := sg_if (q3 = 0) t.h3 E3
    have z3 := sg_q3 t.hq G3
    have z2 := sg_q2 q2 (G2 + if q3 = 2 then G3 else 0)
    rw [c4, c5, c6] at E0
    clear E1 E2 E3 E1' E2' h1 h2 h3 c1 c2 c3 c4 c5 c6
    generalize (if q3 = 2 then G3 else 0) = u2 at *
    generalize (if q3 = 1 then G3 else 0) = u1 at *
    generalize (if q3 = 0 then G3 else 0) = u0 at *
    generalize (if q2 = true then G2 + u2 else 0) = v1 at *
    generalize (if q2 = true then 0 else G2 + u2) = v0 at *
    omega
  simp only [h3, h2, h1, h0, if_true]
noncomputable def gM (b : Bool) (f : Nat) : Nat := if b then f else 0
theorem gM_xor (a b : Bool) (f : Nat) : gM a f ^^^ gM b f = gM (a != b) f := by cases a <;> cases b <;> simp [gM]
theorem gM_gM (a b : Bool) (f : Nat) : gM a (gM b f) = gM (a && b) f := by cases a <;> cases b <;> rfl
theorem gM_x (a : Bool) (f g : Nat) : gM a (f ^^^ g) = gM a f ^^^ gM a g := by cases a <;> simp [gM]
theorem gM_0 (a : Bool) : gM a 0 = 0 := by cases a <;> rfl
noncomputable def U2 (q3 : Nat) (G3 G2 : Nat) : Nat := gM (q3 == 2) G3 ^^^ G2
noncomputable def U1 (q2 : Bool) (q3 : Nat) (G3 G2 G1 : Nat) : Nat := gM q2 (U2 q3 G3 G2) ^^^ (gM (q3 == 1) G3 ^^^ G1)
theorem u0_all : ∀ q2 : Bool, ∀ q3 < 3, ∀ G1 < 4, ∀ G2 < 4, ∀ G3 < 4, U1 q2 q3 G3 G2 G1 ^^^ (gM (!q2) (U2 q3 G3 G2) ^^^ (gM (q3 == 0) G3 ^^^ (G1 ^^^ (G2 ^^^ G3)))) = 0 := by decide +kernel
theorem plain_tree {p0 p1 p2 : Int × Int} {ps : List (Int × Int)} {ch : List Int} {e1 e2 e3 : Int} {q2 : Bool} {q3 : Nat} (t : Tree p0 p1 p2 e1 e2 e3 q2 q3) (Gf : Int → Nat) (hl : ps.length = 5 ∨ ps.length = 6) (hf : Fl4 (0 :: 0 :: 0 :: ch))
    (hx : ∀ (y0 y1 y2 pt : Int), XN ps (y0 :: y1 :: y2 :: ch) pt = gM (oddP p0 pt) y0.toNat ^^^ (gM (oddP p1 pt) y1.toNat ^^^ (gM (oddP p2 pt) y2.toNat ^^^ Gf pt))) (hG : Gf 0 = Gf 1 ^^^ (Gf 2 ^^^ Gf 3)) (hG4 : Gf 1 < 4 ∧ Gf 2 < 4 ∧ Gf 3 < 4) :
    plain ps ch = (if Gf 3 = 0 then 0 else if U2 q3 (Gf 3) (Gf 2) = 0 then 0 else if U1 q2 q3 (Gf 3) (Gf 2) (Gf 1) = 0 then 0 else 1) ∧ colours (endsV ps) ch = plain ps ch := by
  have E3 : v3 ps ch = Gf 3 := by
    unfold v3
    rw [hx]; simp [gM_0]
  have E2 : v2 ps ch = U2 q3 (Gf 3) (Gf 2) := by
    unfold v2
    rw [hx, E3, t.o2.2.2]; simp [gM_0, U2]
  have E1 : v1 ps ch = U1 q2 q3 (Gf 3) (Gf 2) (Gf 1) := by
    unfold v1
    rw [hx, E2, E3, t.o1.2.1, t.o1.2.2]; simp [gM_0, U1]
  have E0 : v0 ps ch = 0 := by
    unfold v0
    rw [hx, E1, E2, E3, t.o0.1, t.o0.2.1, t.o0.2.2, hG]
    have := u0_all q2 q3 (by rcases t.hq with h | h | h <;> omega) _ hG4.1 _ hG4.2.1 _ hG4.2.2
    simpa [gM] using this
  rw [plain_eq hf, colours_eq hf hl, E3, E2, E1, E0]
  exact ⟨rfl, rfl⟩
noncomputable def r2 (q3 : Nat) (p : Int × Int) : Int := cP p 2 + if q3 = 2 then cP p 3 else 0
noncomputable def r1 (q2 : Bool) (q3 : Nat) (p : Int × Int) : Int := cP p 1 + (if q2 then r2 q3 p else 0) + if q3 = 1 then cP p 3 else 0
noncomputable def m2 (q3 : Nat) (p : Int × Int) : Bool := (q3 == 2 && oddP p 3) != oddP p 2
noncomputable def m1 (q2 : Bool) (q3 : Nat) (p : Int × Int) : Bool := (q2 && m2 q3 p) != ((q3 == 1 && oddP p 3) != oddP p 1)
noncomputable def Fj (p3 p4 p5 : Int × Int) (f3 f4 f5 : Int) (pt : Int) : Int := cP p3 pt * f3 + (cP p4 pt * f4 + cP p5 pt * f5)
noncomputable def Gj (p3 p4 p5 : Int × Int) (f3 f4 f5 : Nat) (pt : Int) : Nat := gM (oddP p3 pt) f3 ^^^ (gM (oddP p4 pt) f4 ^^^ gM (oddP p5 pt) f5)
theorem if_lin (q : Prop) [Decidable q] (a b c f g h : Int) : (if q then a * f + (b * g + c * h) else 0) = (if q then a else 0) * f + ((if q then b else 0) * g + (if q then c else 0) * h) := by
  by_cases hq : q
  · simp only [if_pos hq]
  · simp only [if_neg hq, Int.zero_mul, Int.add_zero]
theorem lin3 (a b c a2 b2 c2 f g h : Int) : (a * f + (b * g + c * h)) + (a2 * f + (b2 * g + c2 * h)) = (a + a2) * f + ((b + b2) * g + (c + c2) * h) := by
  rw [Int.add_mul, Int.add_mul, Int.add_mul]
  omega
theorem T2_row (q2 : Bool) (q3 : Nat) (p3 p4 p5 : Int × Int) (f3 f4 f5 : Int) : T2 q2 q3 (Fj p3 p4 p5 f3 f4 f5 3) (Fj p3 p4 p5 f3 f4 f5 2) = r2 q3 p3 * f3 + (r2 q3 p4 * f4 + r2 q3 p5 * f5) := by
  unfold T2 Fj r2
  rw [if_lin, lin3]
theorem T1_row (q2 : Bool) (q3 : Nat) (p3 p4 p5 : Int × Int) (f3 f4 f5 : Int) : T1 q2 q3 (Fj p3 p4 p5 f3 f4 f5 3) (Fj p3 p4 p5 f3 f4 f5 2) (Fj p3 p4 p5 f3 f4 f5 1) = r1 q2 q3 p3 * f3 + (r1 q2 q3 p4 * f4 + r1 q2 q3 p5 * f5) := by
  unfold T1
  rw [T2_row]
  unfold Fj r1
  rw [if_lin, if_lin, lin3, lin3]
theorem xx (a b c d e f : Nat) : (a ^^^ (b ^^^ c)) ^^^ (d ^^^ (e ^^^ f)) = (a ^^^ d) ^^^ ((b ^^^ e) ^^^ (c ^^^ f)) := by ac_rfl
theorem xx3 (a b c d e f g h i : Nat) : (a ^^^ (b ^^^ c)) ^^^ ((d ^^^ (e ^^^ f)) ^^^ (g ^^^ (h ^^^ i))) = (a ^^^ (d ^^^ g)) ^^^ ((b ^^^ (e ^^^ h)) ^^^ (c ^^^ (f ^^^ i))) := by ac_rfl
theorem U2_row (q3 : Nat) (p3 p4 p5 : Int × Int) (f3 f4 f5 : Nat) : U2 q3 (Gj p3 p4 p5 f3 f4 f5 3) (Gj p3 p4 p5 f3 f4 f5 2) = gM (m2 q3 p3) f3 ^^^ (gM (m2 q3 p4) f4 ^^^ gM (m2 q3 p5) f5) := by
  unfold U2 Gj m2
  rw [gM_x, gM_x, gM_gM, gM_gM, gM_gM, xx, gM_xor, gM_xor, gM_xor]
theorem U1_row (q2 : Bool) (q3 : Nat) (p3 p4 p5 : Int × Int) (f3 f4 f5 : Nat) : U1 q2 q3 (Gj p3 p4 p5 f3 f4 f5 3) (Gj p3 p4 p5 f3 f4 f5 2) (Gj p3 p4 p5 f3 f4 f5 1) = gM (m1 q2 q3 p3) f3 ^^^ (gM (m1 q2 q3 p4) f4 ^^^ gM (m1 q2 q3 p5) f5) := by
  unfold U1
  rw [U2_row]
  unfold Gj m1
  rw [gM_x, gM_x, gM_gM, gM_gM, gM_gM, gM_x, gM_x, gM_gM, gM_gM, gM_gM, xx3]
  simp only [gM_xor]
noncomputable def pr16 (p : Int × Int) : Prop := (0 ≤ p.1 ∧ p.1 < 4) ∧ (0 ≤ p.2 ∧ p.2 < 4)
theorem c_all : (([0, 1, 2, 3] : List Int).all fun a => ([0, 1, 2, 3] : List Int).all fun b => (cP (a, b) 0 == -(cP (a, b) 1 + cP (a, b) 2 + cP (a, b) 3)) && ((List.range 4).all fun f => gM (oddP (a, b) 0) f == gM (oddP (a, b) 1) f ^^^ (gM (oddP (a, b) 2) f ^^^ gM (oddP (a, b) 3) f))) = true := by decide +kernel
theorem c_ok {p : Int × Int} (h : pr16 p) : cP p 0 = -(cP p 1 + cP p 2 + cP p 3) ∧ ∀ f < 4, gM (oddP p 0) f = gM (oddP p 1) f ^^^ (gM (oddP p 2) f ^^^ gM (oddP p 3) f) := by
  have h0 := c_all
  simp only [List.all_eq_true, Bool.and_eq_true, beq_iff_eq, List.mem_range] at h0
  exact h0 p.1 (mem4 h.1) p.2 (mem4 h.2)
theorem F_sum {p3 p4 p5 : Int × Int} (h3 : pr16 p3) (h4 : pr16 p4) (h5 : pr16 p5) (f3 f4 f5 : Int) : Fj p3 p4 p5 f3 f4 f5 0 = -(Fj p3 p4 p5 f3 f4 f5 1 + Fj p3 p4 p5 f3 f4 f5 2 + Fj p3 p4 p5 f3 f4 f5 3) := by
  unfold Fj
  rw [(c_ok h3).1, (c_ok h4).1, (c_ok h5).1]
  simp only [Int.neg_mul, Int.add_mul]
  omega
theorem G_sum {p3 p4 p5 : Int × Int} (h3 : pr16 p3) (h4 : pr16 p4) (h5 : pr16 p5) {f3 f4 f5 : Nat} (k3 : f3 < 4) (k4 : f4 < 4) (k5 : f5 < 4) : Gj p3 p4 p5 f3 f4 f5 0 = Gj p3 p4 p5 f3 f4 f5 1 ^^^ (Gj p3 p4 p5 f3 f4 f5 2 ^^^ Gj p3 p4 p5 f3 f4 f5 3) := by
  unfold Gj
  rw [(c_ok h3).2 f3 k3, (c_ok h4).2 f4 k4, (c_ok h5).2 f5 k5]
  ac_rfl
theorem gM_lt {b : Bool} {f : Nat} (h : f < 4) : gM b f < 4 := by cases b <;> simp [gM, h]
theorem G_lt {p3 p4 p5 : Int × Int} {f3 f4 f5 : Nat} (k3 : f3 < 4) (k4 : f4 < 4) (k5 : f5 < 4) (pt : Int) : Gj p3 p4 p5 f3 f4 f5 pt < 4 := xor4 (gM_lt k3) (xor4 (gM_lt k4) (gM_lt k5))
noncomputable def QB : Nat := 1938740787024357403277922653587686931352315919539411050178322058415771709780899740912988107740625247304227538165901007601515586160789526485085826130188403029171903075865587199397070313829847006856801297337808367715745269
noncomputable def PB : Nat := 2768121503609055899409780127551255515896033594693718449788887986659839631414890695583899105709445597220922040447431140077357386952754661416279613537398513770740270898949610125991143654407804035502212767666239297530853215
noncomputable def TB : Nat := 19255054270729893008491005534149248252256602926781282732690012290033276866808550227997693622604181043369877307314662111123331664736047184874077759948250443227256975055791411108947596559321109802036954624006373818143946017559684403162578529602068048730946422771823999999239149825717005481632390412975320206440279958629013623038381969796702446623878923952740084796477918444418310443408990755144638227854376788458924235859745937832180260096754594561627738988715237553750525742696058226208231293151672720457407743312923599856247524705366024968272077418776390695019160354360691986468851967610039890687248939048398439391504
noncomputable def CL : Bool → Nat → List Nat
  | false, 0 => [4, 5, 7, 10, 11, 12, 13, 14, 15, 16, 19, 21, 22]
  | false, 1 => [3, 4, 6, 7, 10, 12, 13, 14, 16, 19, 20, 22, 23]
  | false, 2 => [4, 7, 8, 9, 10, 12, 13, 14, 16, 17, 18, 19, 22]
  | true, 0 => [1, 2, 4, 5, 10, 12, 13, 14, 16, 21, 22, 24, 25]
  | true, 1 => [1, 3, 4, 10, 11, 12, 13, 14, 15, 16, 22, 23, 25]
  | true, 2 => [0, 1, 4, 9, 10, 12, 13, 14, 16, 17, 22, 25, 26]
  | _, _ => []
noncomputable def CS : Bool → Nat → List Nat
  | false, 0 => [5, 11, 12, 14, 15, 21]
  | false, 1 => [3, 6, 12, 14, 20, 23]
  | false, 2 => [8, 9, 12, 14, 17, 18]
  | true, 0 => [2, 5, 12, 14, 21, 24]
  | true, 1 => [3, 11, 12, 14, 15, 23]
  | true, 2 => [0, 9, 12, 14, 17, 26]
  | _, _ => []
noncomputable def ent (B i : Nat) : Nat := Nat.land (Nat.shiftRight B (Nat.mul 27 i)) 134217727
noncomputable def row (p a b c : Nat) : Nat := Nat.add (Nat.mod (Nat.div a p) 3) (Nat.add (Nat.mul 3 (Nat.mod (Nat.div b p) 3)) (Nat.mul 9 (Nat.mod (Nat.div c p) 3)))
noncomputable def MM (B a b c : Nat) : Nat := Nat.land (ent B (row 1 a b c)) (Nat.land (ent B (row 3 a b c)) (ent B (row 9 a b c)))
noncomputable def tb9 (y : Nat) : Nat := Nat.mod (Nat.shiftRight TB (Nat.mul 4 y)) 16
noncomputable def pop27 (x : Nat) : Nat := Nat.add (tb9 (Nat.mod x 512)) (Nat.add (tb9 (Nat.mod (Nat.div x 512) 512)) (tb9 (Nat.mod (Nat.div x 262144) 512)))
noncomputable def pop9 (x : Nat) : Nat := tb9 (Nat.mod x 512)
noncomputable def pop (x n : Nat) : Nat := ((List.range n).filter fun i => x.testBit i).length
theorem chkQ6 : ([false, true].all fun q2 => (List.range 3).all fun q3 => (CS q2 q3).all fun a => (CL q2 q3).all fun b => (CL q2 q3).all fun c => Nat.beq (pop27 (MM QB a b c)) (pop27 (MM PB a b c))) = true := by decide +kernel
theorem chkQ5 : ([false, true].all fun q2 => (List.range 3).all fun q3 => (CS q2 q3).all fun a => (CL q2 q3).all fun b => Nat.beq (pop9 (MM QB a b 13)) (pop9 (MM PB a b 13))) = true := by decide +kernel
noncomputable def fa (i : Nat) : Nat := i % 3 + 1
noncomputable def fb (i : Nat) : Nat := i / 3 % 3 + 1
noncomputable def fc (i : Nat) : Nat := i / 9 + 1
theorem entQ_all : ((List.range 3).all fun a => (List.range 3).all fun b => (List.range 3).all fun c => (List.range 27).all fun i => (ent QB (Nat.add a (Nat.add (Nat.mul 3 b) (Nat.mul 9 c)))).testBit i == !((((a : Int) - 1) * (fa i : Nat) + (((b : Int) - 1) * (fb i : Nat) + ((c : Int) - 1) * (fc i : Nat))) % 4 == 0)) = true := by decide +kernel
theorem entP_all : ((List.range 3).all fun a => (List.range 3).all fun b => (List.range 3).all fun c => (List.range 27).all fun i => (ent PB (Nat.add a (Nat.add (Nat.mul 3 b) (Nat.mul 9 c)))).testBit i == !(gM (a != 1) (fa i) ^^^ (gM (b != 1) (fb i) ^^^ gM (c != 1) (fc i)) == 0)) = true := by decide +kernel
theorem entQ_ok {a b c i : Nat} (ha : a < 3) (hb : b < 3) (hc : c < 3) (hi : i < 27) : (ent QB (Nat.add a (Nat.add (Nat.mul 3 b) (Nat.mul 9 c)))).testBit i = !((((a : Int) - 1) * (fa i : Nat) + (((b : Int) - 1) * (fb i : Nat) + ((c : Int) - 1) * (fc i : Nat))) % 4 == 0) := by
  have h := entQ_all
  simp only [List.all_eq_true, List.mem_range] at h
  exact beq_iff_eq.mp (h a ha b hb c hc i hi)
theorem entP_ok {a b c i : Nat} (ha : a < 3) (hb : b < 3) (hc : c < 3) (hi : i < 27) : (ent PB (Nat.add a (Nat.add (Nat.mul 3 b) (Nat.mul 9 c)))).testBit i = !(gM (a != 1) (fa i) ^^^ (gM (b != 1) (fb i) ^^^ gM (c != 1) (fc i)) == 0) := by
  have h := entP_all
  simp only [List.all_eq_true, List.mem_range] at h
  exact beq_iff_eq.mp (h a ha b hb c hc i hi)
theorem tb9_all : ((List.range 512).all fun y => tb9 y == pop y 9) = true := by decide +kernel
theorem tb9_ok {y : Nat} (h : y < 512) : tb9 y = pop y 9 := by
  have h0 := tb9_all
  simp only [List.all_eq_true, List.mem_range] at h0
  exact beq_iff_eq.mp (h0 y h)
theorem pop_mod (x : Nat) : pop (x % 512) 9 = pop x 9 := by
  unfold pop
  congr 1
  refine List.filter_congr fun i hi => ?_
  have hi := List.mem_range.mp hi
  have : (512 : Nat) = 2 ^ 9 := rfl
  rw [this, Nat.testBit_mod_two_pow]
  simp [hi]
theorem pop_add (x m n : Nat) : pop x (m + n) = pop x m + pop (x / 2 ^ m) n := by
  unfold pop
  rw [List.range_add, List.filter_append, List.length_append, List.filter_map, List.length_map]
  congr 2
  refine List.filter_congr fun i hi => ?_
  show x.testBit (m + i) = _
  rw [Nat.testBit_div_two_pow, Nat.add_comm]
theorem pop27_ok (x : Nat) : pop27 x = pop x 27 := by
  have e1 : pop x 27 = pop x 9 + (pop (x / 512) 9 + pop (x / 512 / 512) 9) := by
    have a := pop_add x 9 18
    have b := pop_add (x / 2 ^ 9) 9 9
    have : (2 : Nat) ^ 9 = 512 := rfl
    rw [this] at a b
    rw [← b]; exact a
  have e2 : x / 512 / 512 = x / 262144 := Nat.div_div_eq_div_mul x 512 512
  show tb9 (x % 512) + (tb9 (x / 512 % 512) + tb9 (x / 262144 % 512)) = _
  rw [tb9_ok (Nat.mod_lt _ (by decide)), tb9_ok (Nat.mod_lt _ (by decide)), tb9_ok (Nat.mod_lt _ (by decide)), pop_mod, pop_mod, pop_mod, e1, e2]
theorem pop9_ok (x : Nat) : pop9 x = pop x 9 := by
  show tb9 (x % 512) = _
  rw [tb9_ok (Nat.mod_lt _ (by decide)), pop_mod]
noncomputable def prs : List (Int × Int) := [(0, 0), (0, 1), (0, 2), (0, 3), (1, 0), (1, 1), (1, 2), (1, 3), (2, 0), (2, 1), (2, 2), (2, 3), (3, 0), (3, 1), (3, 2), (3, 3)]
noncomputable def six : List (Int × Int) := [(3, 0), (3, 1), (3, 2), (0, 3), (1, 3), (2, 3)]
noncomputable def codeP (q2 : Bool) (q3 : Nat) (p : Int × Int) : Nat := ((cP p 3 + 1) + 3 * (r2 q3 p + 1) + 9 * (r1 q2 q3 p + 1)).toNat
noncomputable def chkCode (q2 : Bool) (q3 : Nat) (p : Int × Int) : Bool := (CL q2 q3).contains (codeP q2 q3 p) && (((codeP q2 q3 p / 1 % 3 : Nat) : Int) - 1 == cP p 3) && (((codeP q2 q3 p / 3 % 3 : Nat) : Int) - 1 == r2 q3 p) && (((codeP q2 q3 p / 9 % 3 : Nat) : Int) - 1 == r1 q2 q3 p)
  && ((codeP q2 q3 p / 1 % 3 != 1) == oddP p 3) && ((codeP q2 q3 p / 3 % 3 != 1) == m2 q3 p) && ((codeP q2 q3 p / 9 % 3 != 1) == m1 q2 q3 p)
theorem code_all : ([false, true].all fun q2 => (List.range 3).all fun q3 => (prs.all fun p => chkCode q2 q3 p) && (six.all fun p => (CS q2 q3).contains (codeP q2 q3 p) && prs.contains p) && (codeP q2 q3 (0, 0) == 13)) = true := by decide +kernel
theorem memB (b : Bool) : b ∈ [false, true] := by cases b <;> simp
theorem code_ok {q2 : Bool} {q3 : Nat} (h3 : q3 < 3) : (∀ p ∈ prs, chkCode q2 q3 p = true) ∧ (∀ p ∈ six, codeP q2 q3 p ∈ CS q2 q3 ∧ p ∈ prs) ∧ codeP q2 q3 (0, 0) = 13 := by
  have h := code_all
  simp only [List.all_eq_true, List.mem_range, Bool.and_eq_true, beq_iff_eq, List.contains_iff_mem] at h
  obtain ⟨⟨h1, h2⟩, h4⟩ := h q2 (memB q2) q3 h3
  exact ⟨h1, h2, h4⟩
theorem bitQ {q2 : Bool} {q3 : Nat} (h3 : q3 < 3) {p3 p4 p5 : Int × Int} (k3 : p3 ∈ prs) (k4 : p4 ∈ prs) (k5 : p5 ∈ prs) {i : Nat} (hi : i < 27) :
    (if Fj p3 p4 p5 (fa i : Nat) (fb i : Nat) (fc i : Nat) 3 % 4 = 0 then (0 : Int) else if T2 q2 q3 (Fj p3 p4 p5 (fa i : Nat) (fb i : Nat) (fc i : Nat) 3) (Fj p3 p4 p5 (fa i : Nat) (fb i : Nat) (fc i : Nat) 2) % 4 = 0 then 0 else if T1 q2 q3 (Fj p3 p4 p5 (fa i : Nat) (fb i : Nat) (fc i : Nat) 3) (Fj p3 p4 p5 (fa i : Nat) (fb i : Nat) (fc i : Nat) 2) (Fj p3 p4 p5 (fa i : Nat) (fb i : Nat) (fc i : Nat) 1) % 4 = 0 then 0 else 1)
      = if (MM QB (codeP q2 q3 p3) (codeP q2 q3 p4) (codeP q2 q3 p5)).testBit i then 1 else 0 := by
  obtain ⟨hc, -, -⟩ := code_ok (q2 := q2) h3
  have c3 := hc p3 k3
  have c4 := hc p4 k4
  have c5 := hc p5 k5
  unfold chkCode at c3 c4 c5
  simp only [Bool.and_eq_true, beq_iff_eq] at c3 c4 c5
  obtain ⟨⟨⟨⟨⟨⟨-, a1⟩, a2⟩, a3⟩, -⟩, -⟩, -⟩ := c3
  obtain ⟨⟨⟨⟨⟨⟨-, b1⟩, b2⟩, b3⟩, -⟩, -⟩, -⟩ := c4
  obtain ⟨⟨⟨⟨⟨⟨-, d1⟩, d2⟩, d3⟩, -⟩, -⟩, -⟩ := c5
  have lt : ∀ x : Nat, x % 3 < 3 := fun x => Nat.mod_lt _ (by decide)
  have e1 := entQ_ok (lt (codeP q2 q3 p3 / 1)) (lt (codeP q2 q3 p4 / 1)) (lt (codeP q2 q3 p5 / 1)) hi
  have e2 := entQ_ok (lt (codeP q2 q3 p3 / 3)) (lt (codeP q2 q3 p4 / 3)) (lt (codeP q2 q3 p5 / 3)) hi
  have e3 := entQ_ok (lt (codeP q2 q3 p3 / 9)) (lt (codeP q2 q3 p4 / 9)) (lt (codeP q2 q3 p5 / 9)) hi
  rw [a1, b1, d1] at e1
  rw [a2, b2, d2] at e2
  rw [a3, b3, d3] at e3
  rw [T1_row, T2_row]
  have em : (MM QB (codeP q2 q3 p3) (codeP q2 q3 p4) (codeP q2 q3 p5)).testBit i = ((ent QB (row 1 (codeP q2 q3 p3) (codeP q2 q3 p4) (codeP q2 q3 p5))).testBit i && ((ent QB (row 3 (codeP q2 q3 p3) (codeP q2 q3 p4) (codeP q2 q3 p5))).testBit i && (ent QB (row 9 (codeP q2 q3 p3) (codeP q2 q3 p4) (codeP q2 q3 p5))).testBit i)) := by
    show Nat.testBit (_ &&& (_ &&& _)) i = _
    rw [Nat.testBit_and, Nat.testBit_and]
  have f1 : (ent QB (row 1 (codeP q2 q3 p3) (codeP q2 q3 p4) (codeP q2 q3 p5))).testBit i = _ := e1
  have f2 : (ent QB (row 3 (codeP q2 q3 p3) (codeP q2 q3 p4) (codeP q2 q3 p5))).testBit i = _ := e2
  have f3 : (ent QB (row 9 (codeP q2 q3 p3) (codeP q2 q3 p4) (codeP q2 q3 p5))).testBit i = _ := e3
  rw [em, f1, f2, f3]
  unfold Fj
  generalize (cP p3 3 * (fa i : Nat) + (cP p4 3 * (fb i : Nat) + cP p5 3 * (fc i : Nat))) % 4 = X
  generalize (r2 q3 p3 * (fa i : Nat) + (r2 q3 p4 * (fb i : Nat) + r2 q3 p5 * (fc i : Nat))) % 4 = Y
  generalize (r1 q2 q3 p3 * (fa i : Nat) + (r1 q2 q3 p4 * (fb i : Nat) + r1 q2 q3 p5 * (fc i : Nat))) % 4 = Z
  by_cases hX : X = 0 <;> by_cases hY : Y = 0 <;> by_cases hZ : Z = 0 <;> simp [hX, hY, hZ]
theorem bitP {q2 : Bool} {q3 : Nat} (h3 : q3 < 3) {p3 p4 p5 : Int × Int} (k3 : p3 ∈ prs) (k4 : p4 ∈ prs) (k5 : p5 ∈ prs) {i : Nat} (hi : i < 27) :
    (if Gj p3 p4 p5 (fa i) (fb i) (fc i) 3 = 0 then (0 : Int) else if U2 q3 (Gj p3 p4 p5 (fa i) (fb i) (fc i) 3) (Gj p3 p4 p5 (fa i) (fb i) (fc i) 2) = 0 then 0 else if U1 q2 q3 (Gj p3 p4 p5 (fa i) (fb i) (fc i) 3) (Gj p3 p4 p5 (fa i) (fb i) (fc i) 2) (Gj p3 p4 p5 (fa i) (fb i) (fc i) 1) = 0 then 0 else 1)
      = if (MM PB (codeP q2 q3 p3) (codeP q2 q3 p4) (codeP q2 q3 p5)).testBit i then 1 else 0 := by
  obtain ⟨hc, -, -⟩ := code_ok (q2 := q2) h3
  have c3 := hc p3 k3
  have c4 := hc p4 k4
  have c5 := hc p5 k5
  unfold chkCode at c3 c4 c5
  simp only [Bool.and_eq_true, beq_iff_eq] at c3 c4 c5
  obtain ⟨⟨⟨⟨⟨⟨-, -⟩, -⟩, -⟩, a1⟩, a2⟩, a3⟩ := c3
  obtain ⟨⟨⟨⟨⟨⟨-, -⟩, -⟩, -⟩, b1⟩, b2⟩, b3⟩ := c4
  obtain ⟨⟨⟨⟨⟨⟨-, -⟩, -⟩, -⟩, d1⟩, d2⟩, d3⟩ := c5
  have lt : ∀ x : Nat, x % 3 < 3 := fun x => Nat.mod_lt _ (by decide)
  have e1 := entP_ok (lt (codeP q2 q3 p3 / 1)) (lt (codeP q2 q3 p4 / 1)) (lt (codeP q2 q3 p5 / 1)) hi
  have e2 := entP_ok (lt (codeP q2 q3 p3 / 3)) (lt (codeP q2 q3 p4 / 3)) (lt (codeP q2 q3 p5 / 3)) hi
  have e3 := entP_ok (lt (codeP q2 q3 p3 / 9)) (lt (codeP q2 q3 p4 / 9)) (lt (codeP q2 q3 p5 / 9)) hi
  rw [a1, b1, d1] at e1
  rw [a2, b2, d2] at e2
  rw [a3, b3, d3] at e3
  rw [U1_row, U2_row]
  have em : (MM PB (codeP q2 q3 p3) (codeP q2 q3 p4) (codeP q2 q3 p5)).testBit i = ((ent PB (row 1 (codeP q2 q3 p3) (codeP q2 q3 p4) (codeP q2 q3 p5))).testBit i && ((ent PB (row 3 (codeP q2 q3 p3) (codeP q2 q3 p4) (codeP q2 q3 p5))).testBit i && (ent PB (row 9 (codeP q2 q3 p3) (codeP q2 q3 p4) (codeP q2 q3 p5))).testBit i)) := by
    show Nat.testBit (_ &&& (_ &&& _)) i = _
    rw [Nat.testBit_and, Nat.testBit_and]
  have f1 : (ent PB (row 1 (codeP q2 q3 p3) (codeP q2 q3 p4) (codeP q2 q3 p5))).testBit i = _ := e1
  have f2 : (ent PB (row 3 (codeP q2 q3 p3) (codeP q2 q3 p4) (codeP q2 q3 p5))).testBit i = _ := e2
  have f3 : (ent PB (row 9 (codeP q2 q3 p3) (codeP q2 q3 p4) (codeP q2 q3 p5))).testBit i = _ := e3
  rw [em, f1, f2, f3]
  unfold Gj
  generalize gM (oddP p3 3) (fa i) ^^^ (gM (oddP p4 3) (fb i) ^^^ gM (oddP p5 3) (fc i)) = X
  generalize gM (m2 q3 p3) (fa i) ^^^ (gM (m2 q3 p4) (fb i) ^^^ gM (m2 q3 p5) (fc i)) = Y
  generalize gM (m1 q2 q3 p3) (fa i) ^^^ (gM (m1 q2 q3 p4) (fb i) ^^^ gM (m1 q2 q3 p5) (fc i)) = Z
  by_cases hX : X = 0 <;> by_cases hY : Y = 0 <;> by_cases hZ : Z = 0 <;> simp [hX, hY, hZ]
noncomputable def und (p : Int × Int) : Int × Int := if p.1 = p.2 then (0, 0) else if p.1 < p.2 then p else (p.2, p.1)
noncomputable def prsU : List (Int × Int) := [(0, 0), (0, 1), (0, 2), (0, 3), (1, 2), (1, 3), (2, 3)]
noncomputable def sixU : List (Int × Int) := [(0, 3), (1, 3), (2, 3)]
theorem und_all : (prs.all fun p => prsU.contains (und p) && prs.contains (und p) && (List.range 4).all fun (pt : Nat) => oddP (und p) (pt : Nat) == oddP p (pt : Nat)) = true ∧ (six.all fun p => sixU.contains (und p)) = true ∧ und (0, 0) = (0, 0) := by decide +kernel
theorem und_ok {p : Int × Int} (h : p ∈ prs) : und p ∈ prsU ∧ und p ∈ prs ∧ ∀ pt : Nat, pt < 4 → oddP (und p) (pt : Nat) = oddP p (pt : Nat) := by
  have h0 := und_all.1
  simp only [List.all_eq_true, List.mem_range, Bool.and_eq_true, beq_iff_eq, List.contains_iff_mem] at h0
  obtain ⟨⟨a, b⟩, c⟩ := h0 p h
  exact ⟨a, b, c⟩
theorem und6 {p : Int × Int} (h : p ∈ six) : und p ∈ sixU := by
  have h0 := und_all.2.1
  simp only [List.all_eq_true, List.contains_iff_mem] at h0
  exact h0 p h
noncomputable def mk6 (b0 b1 b2 b3 b4 b5 : Bool) : Nat := b0.toNat + (2 * b1.toNat + (4 * b2.toNat + (8 * b3.toNat + (16 * b4.toNat + 32 * b5.toNat))))
theorem mk6_eq : ∀ b0 b1 b2 b3 b4 b5 : Bool, ((bF b0 0 ++ (bF b1 1 ++ (bF b2 2 ++ (bF b3 3 ++ (bF b4 4 ++ bF b5 5))))).map fun k => 2 ^ k).sum = mk6 b0 b1 b2 b3 b4 b5 := by decide
theorem mk5_eq : ∀ b0 b1 b2 b3 b4 : Bool, ((bF b0 0 ++ (bF b1 1 ++ (bF b2 2 ++ (bF b3 3 ++ bF b4 4)))).map fun k => 2 ^ k).sum = mk6 b0 b1 b2 b3 b4 false := by decide
noncomputable def tbits (q2 : Bool) (q3 : Nat) : Nat → Bool × Bool × Bool
  | 0 => (true, !q2, q3 == 0)
  | 1 => (true, q2, q3 == 1)
  | 2 => (false, true, q3 == 2)
  | _ => (false, false, true)
noncomputable def mT (q2 : Bool) (q3 : Nat) (u3 u4 u5 : Int × Int) (pt : Nat) : Nat := mk6 (tbits q2 q3 pt).1 (tbits q2 q3 pt).2.1 (tbits q2 q3 pt).2.2 (oddP u3 (pt : Nat)) (oddP u4 (pt : Nat)) (oddP u5 (pt : Nat))
noncomputable def cTT (q2 : Bool) (q3 : Nat) (u3 u4 u5 : Int × Int) : List Nat := (List.range 4).map (mT q2 q3 u3 u4 u5) ++ (List.range 3).map fun i => mT q2 q3 u3 u4 u5 0 ^^^ mT q2 q3 u3 u4 u5 (i + 1)
theorem chkA6 : ([false, true].all fun q2 => (List.range 3).all fun q3 => sixU.all fun u3 => prsU.all fun u4 => prsU.all fun u5 => (Nat.beq (pop27 (MM PB (codeP q2 q3 u3) (codeP q2 q3 u4) (codeP q2 q3 u5))) 0 == (cTT q2 q3 u3 u4 u5).any oneB) && (cTT q2 q3 u3 u4 u5).all (fun m => Nat.ble 1 m && Nat.ble m 63)) = true := by decide +kernel
theorem chkA5 : ([false, true].all fun q2 => (List.range 3).all fun q3 => sixU.all fun u3 => prsU.all fun u4 => (Nat.beq (pop9 (MM PB (codeP q2 q3 u3) (codeP q2 q3 u4) 13)) 0 == (cTT q2 q3 u3 u4 (0, 0)).any oneB) && (cTT q2 q3 u3 u4 (0, 0)).all (fun m => Nat.ble 1 m && Nat.ble m 63) && (List.range 4).all (fun pt => Nat.ble (mT q2 q3 u3 u4 (0, 0) pt) 31)) = true := by decide +kernel
noncomputable def ch6 (i : Nat) : List Int := [(fa i : Nat), (fb i : Nat), (fc i : Nat)]
noncomputable def ch5 (i : Nat) : List Int := [(fa i : Nat), (fb i : Nat)]
theorem choices6_eq : choicesN 6 = (List.range 27).map ch6 := by decide +kernel
theorem choices5_eq : choicesN 5 = (List.range 9).map ch5 := by decide +kernel
theorem f_lt {i : Nat} (h : i < 27) : fa i < 4 ∧ fb i < 4 ∧ fc i < 4 := by unfold fa fb fc; omega
theorem Fl4_6 {i : Nat} (h : i < 27) : Fl4 (0 :: 0 :: 0 :: ch6 i) := by
  have := f_lt h
  intro k
  match k with
  | 0 => exact (by decide : (0 : Int) ≤ 0 ∧ (0 : Int) < 4)
  | 1 => exact (by decide : (0 : Int) ≤ 0 ∧ (0 : Int) < 4)
  | 2 => exact (by decide : (0 : Int) ≤ 0 ∧ (0 : Int) < 4)
  | 3 => show (0 : Int) ≤ (fa i : Nat) ∧ ((fa i : Nat) : Int) < 4; omega
  | 4 => show (0 : Int) ≤ (fb i : Nat) ∧ ((fb i : Nat) : Int) < 4; omega
  | 5 => show (0 : Int) ≤ (fc i : Nat) ∧ ((fc i : Nat) : Int) < 4; omega
  | k + 6 =>
    have : nth (0 :: 0 :: 0 :: ch6 i) ((k + 6 : Nat) : Int) = 0 := by unfold nth ch6; rw [Int.toNat_natCast]; simp
    rw [this]; decide
theorem Fl4_5 {i : Nat} (h : i < 27) : Fl4 (0 :: 0 :: 0 :: ch5 i) := by
  have := f_lt h
  intro k
  match k with
  | 0 => exact (by decide : (0 : Int) ≤ 0 ∧ (0 : Int) < 4)
  | 1 => exact (by decide : (0 : Int) ≤ 0 ∧ (0 : Int) < 4)
  | 2 => exact (by decide : (0 : Int) ≤ 0 ∧ (0 : Int) < 4)
  | 3 => show (0 : Int) ≤ (fa i : Nat) ∧ ((fa i : Nat) : Int) < 4; omega
  | 4 => show (0 : Int) ≤ (fb i : Nat) ∧ ((fb i : Nat) : Int) < 4; omega
  | k + 5 =>
    have : nth (0 :: 0 :: 0 :: ch5 i) ((k + 5 : Nat) : Int) = 0 := by unfold nth ch5; rw [Int.toNat_natCast]; simp
    rw [this]; decide
theorem prs16 {p : Int × Int} (h : p ∈ prs) : pr16 p := by
  have : (prs.all fun p => decide (0 ≤ p.1) && decide (p.1 < 4) && decide (0 ≤ p.2) && decide (p.2 < 4)) = true := by decide
  simp only [List.all_eq_true, Bool.and_eq_true, decide_eq_true_eq] at this
  obtain ⟨⟨⟨a, b⟩, c⟩, d⟩ := this p h
  exact ⟨⟨a, b⟩, c, d⟩
theorem cP00 (pt : Int) : cP (0, 0) pt = 0 := by unfold cP; simp
theorem odd00 (pt : Int) : oddP (0, 0) pt = false := by unfold oddP; simp
section
variable {p0 p1 p2 p3 p4 p5 : Int × Int} {e1 e2 e3 : Int} {q2 : Bool} {q3 : Nat} (t : Tree p0 p1 p2 e1 e2 e3 q2 q3)
include t
theorem q3_lt : q3 < 3 := by rcases t.hq with h | h | h <;> omega
theorem one6q (k3 : p3 ∈ prs) (k4 : p4 ∈ prs) (k5 : p5 ∈ prs) {i : Nat} (hi : i < 27) : quarters [p0, p1, p2, p3, p4, p5] (endsV [p0, p1, p2, p3, p4, p5]) (ch6 i) = if (MM QB (codeP q2 q3 p3) (codeP q2 q3 p4) (codeP q2 q3 p5)).testBit i then 1 else 0 := by
  rw [← bitQ (q3_lt t) k3 k4 k5 hi]
  exact quarters_tree t (Fj p3 p4 p5 (fa i : Nat) (fb i : Nat) (fc i : Nat)) ⟨rfl, rfl, rfl⟩ (fun y0 y1 y2 pt h0 h1 => net6 p0 p1 p2 p3 p4 p5 y0 y1 y2 _ _ _ h0 h1) (F_sum (prs16 k3) (prs16 k4) (prs16 k5) _ _ _)
theorem one5q (k3 : p3 ∈ prs) (k4 : p4 ∈ prs) {i : Nat} (hi : i < 27) : quarters [p0, p1, p2, p3, p4] (endsV [p0, p1, p2, p3, p4]) (ch5 i) = if (MM QB (codeP q2 q3 p3) (codeP q2 q3 p4) (codeP q2 q3 (0, 0))).testBit i then 1 else 0 := by
  have k5 : ((0, 0) : Int × Int) ∈ prs := by decide
  rw [← bitQ (q3_lt t) k3 k4 k5 hi]
  refine quarters_tree t (Fj p3 p4 (0, 0) (fa i : Nat) (fb i : Nat) (fc i : Nat)) ⟨rfl, rfl, rfl⟩ (fun y0 y1 y2 pt h0 h1 => ?_) (F_sum (prs16 k3) (prs16 k4) (prs16 k5) _ _ _)
  have := net5 p0 p1 p2 p3 p4 y0 y1 y2 (fa i : Nat) (fb i : Nat) h0 h1
  unfold Fj
  rw [cP00]
  simpa [ch5] using this
theorem one6p (k3 : p3 ∈ prs) (k4 : p4 ∈ prs) (k5 : p5 ∈ prs) {i : Nat} (hi : i < 27) : plain [p0, p1, p2, p3, p4, p5] (ch6 i) = (if Gj p3 p4 p5 (fa i) (fb i) (fc i) 3 = 0 then (0 : Int) else if U2 q3 (Gj p3 p4 p5 (fa i) (fb i) (fc i) 3) (Gj p3 p4 p5 (fa i) (fb i) (fc i) 2) = 0 then 0 else if U1 q2 q3 (Gj p3 p4 p5 (fa i) (fb i) (fc i) 3) (Gj p3 p4 p5 (fa i) (fb i) (fc i) 2) (Gj p3 p4 p5 (fa i) (fb i) (fc i) 1) = 0 then 0 else 1) ∧ colours (endsV [p0, p1, p2, p3, p4, p5]) (ch6 i) = plain [p0, p1, p2, p3, p4, p5] (ch6 i) := by
  obtain ⟨la, lb, lc⟩ := f_lt hi
  exact plain_tree t (Gj p3 p4 p5 (fa i) (fb i) (fc i)) (.inr rfl) (Fl4_6 hi) (fun y0 y1 y2 pt => XN6 p0 p1 p2 p3 p4 p5 y0 y1 y2 _ _ _ pt) (G_sum (prs16 k3) (prs16 k4) (prs16 k5) la lb lc) ⟨G_lt la lb lc 1, G_lt la lb lc 2, G_lt la lb lc 3⟩
theorem one5p (k3 : p3 ∈ prs) (k4 : p4 ∈ prs) {i : Nat} (hi : i < 27) : plain [p0, p1, p2, p3, p4] (ch5 i) = (if Gj p3 p4 (0, 0) (fa i) (fb i) (fc i) 3 = 0 then (0 : Int) else if U2 q3 (Gj p3 p4 (0, 0) (fa i) (fb i) (fc i) 3) (Gj p3 p4 (0, 0) (fa i) (fb i) (fc i) 2) = 0 then 0 else if U1 q2 q3 (Gj p3 p4 (0, 0) (fa i) (fb i) (fc i) 3) (Gj p3 p4 (0, 0) (fa i) (fb i) (fc i) 2) (Gj p3 p4 (0, 0) (fa i) (fb i) (fc i) 1) = 0 then 0 else 1) ∧ colours (endsV [p0, p1, p2, p3, p4]) (ch5 i) = plain [p0, p1, p2, p3, p4] (ch5 i) := by
  obtain ⟨la, lb, lc⟩ := f_lt hi
  have k5 : ((0, 0) : Int × Int) ∈ prs := by decide
  refine plain_tree t (Gj p3 p4 (0, 0) (fa i) (fb i) (fc i)) (.inl rfl) (Fl4_5 hi) (fun y0 y1 y2 pt => ?_) (G_sum (prs16 k3) (prs16 k4) (prs16 k5) la lb lc) ⟨G_lt la lb lc 1, G_lt la lb lc 2, G_lt la lb lc 3⟩
  have := XN5 p0 p1 p2 p3 p4 y0 y1 y2 (fa i : Nat) (fb i : Nat) pt
  unfold Gj
  rw [odd00]
  have e : gM false (fc i) = 0 := rfl
  rw [e, Nat.xor_zero]
  exact this
theorem Gj_und (k3 : p3 ∈ prs) (k4 : p4 ∈ prs) (k5 : p5 ∈ prs) (x y z : Nat) {pt : Nat} (h : pt < 4) : Gj (und p3) (und p4) (und p5) x y z (pt : Nat) = Gj p3 p4 p5 x y z (pt : Nat) := by
  unfold Gj
  rw [(und_ok k3).2.2 pt h, (und_ok k4).2.2 pt h, (und_ok k5).2.2 pt h]
end
theorem sum_pop (x n : Nat) (q : Nat → Int) (h : ∀ i, i < n → q i = if x.testBit i then 1 else 0) : ((List.range n).map q).sum = (pop x n : Nat) := by
  have e : (List.range n).map q = (List.range n).map fun i => if x.testBit i then (1 : Int) else 0 := List.map_congr_left fun i hi => h i (List.mem_range.mp hi)
  rw [e, sum_ind fun i => x.testBit i]; rfl
structure NetOk (ps : List (Int × Int)) (N : Nat) : Prop where
  m1 : ∀ pt : Nat, pt < 4 → 1 ≤ maskV ps (pt : Nat) ∧ maskV ps (pt : Nat) < 2 ^ N
  m7 : ∀ m ∈ cutsV ps, 1 ≤ m ∧ m < 64
  sq : ((choicesN N).map fun ch => quarters ps (endsV ps) ch).sum = ((choicesN N).map fun ch => plain ps ch).sum
  sc : ((choicesN N).map fun ch => colours (endsV ps) ch).sum = ((choicesN N).map fun ch => plain ps ch).sum
  al : (((choicesN N).map fun ch => plain ps ch).sum == 0) = aloneB ps
section
variable {p0 p1 p2 p3 p4 p5 : Int × Int} {e1 e2 e3 : Int} {q2 : Bool} {q3 : Nat} (t : Tree p0 p1 p2 e1 e2 e3 q2 q3)
include t
theorem tb_ok {pt : Nat} (h : pt < 4) : oddP p0 (pt : Nat) = (tbits q2 q3 pt).1 ∧ oddP p1 (pt : Nat) = (tbits q2 q3 pt).2.1 ∧ oddP p2 (pt : Nat) = (tbits q2 q3 pt).2.2 := by
  match pt, h with
  | 0, _ => exact t.o0
  | 1, _ => exact t.o1
  | 2, _ => exact t.o2
  | 3, _ => exact t.o3
theorem mask6 (k3 : p3 ∈ prs) (k4 : p4 ∈ prs) (k5 : p5 ∈ prs) {pt : Nat} (h : pt < 4) : maskV [p0, p1, p2, p3, p4, p5] (pt : Nat) = mT q2 q3 (und p3) (und p4) (und p5) pt := by
  unfold maskV endsK mT
  show (((List.range 6).filter _).map _).sum = _
  obtain ⟨a, b, c⟩ := tb_ok t h
  rw [filt6, mk6_eq, (und_ok k3).2.2 pt h, (und_ok k4).2.2 pt h, (und_ok k5).2.2 pt h, ← a, ← b, ← c]
  rfl
theorem mask5 (k3 : p3 ∈ prs) (k4 : p4 ∈ prs) {pt : Nat} (h : pt < 4) : maskV [p0, p1, p2, p3, p4] (pt : Nat) = mT q2 q3 (und p3) (und p4) (0, 0) pt := by
  unfold maskV endsK mT
  show (((List.range 5).filter _).map _).sum = _
  obtain ⟨a, b, c⟩ := tb_ok t h
  rw [filt5, mk5_eq, (und_ok k3).2.2 pt h, (und_ok k4).2.2 pt h, odd00, ← a, ← b, ← c]
  rfl
end
theorem cuts_of {ps : List (Int × Int)} {q2 : Bool} {q3 : Nat} {u3 u4 u5 : Int × Int} (h : ∀ pt : Nat, pt < 4 → maskV ps (pt : Nat) = mT q2 q3 u3 u4 u5 pt) : cutsV ps = cTT q2 q3 u3 u4 u5 := by
  unfold cutsV cTT
  refine congr (congrArg _ (List.map_congr_left fun i hi => h i (List.mem_range.mp hi))) (List.map_congr_left fun i hi => ?_)
  have hi := List.mem_range.mp hi
  rw [h 0 (by decide), h (i + 1) (by omega)]
section
variable {p0 p1 p2 p3 p4 p5 : Int × Int} {e1 e2 e3 : Int} {q2 : Bool} {q3 : Nat} (t : Tree p0 p1 p2 e1 e2 e3 q2 q3)
include t
theorem net6_ok (k3 : p3 ∈ six) (k4 : p4 ∈ prs) (k5 : p5 ∈ prs) : NetOk [p0, p1, p2, p3, p4, p5] 6 := by
  have h3 := q3_lt t
  obtain ⟨hc, hs, -⟩ := code_ok (q2 := q2) h3
  have k3' := (hs p3 k3).2
  have sQ : ((choicesN 6).map fun ch => quarters [p0, p1, p2, p3, p4, p5] (endsV [p0, p1, p2, p3, p4, p5]) ch).sum = (pop (MM QB (codeP q2 q3 p3) (codeP q2 q3 p4) (codeP q2 q3 p5)) 27 : Nat) := by
    rw [choices6_eq, List.map_map]
    exact sum_pop _ _ _ fun i hi => one6q t k3' k4 k5 hi
  have sP : ((choicesN 6).map fun ch => plain [p0, p1, p2, p3, p4, p5] ch).sum = (pop (MM PB (codeP q2 q3 p3) (codeP q2 q3 p4) (codeP q2 q3 p5)) 27 : Nat) := by
    rw [choices6_eq, List.map_map]
    exact sum_pop _ _ _ fun i hi => (one6p t k3' k4 k5 hi).1.trans (bitP h3 k3' k4 k5 hi)
  have u3 := und_ok k3'
  have u4 := und_ok k4
  have u5 := und_ok k5
  have sU : ((choicesN 6).map fun ch => plain [p0, p1, p2, p3, p4, p5] ch).sum = (pop (MM PB (codeP q2 q3 (und p3)) (codeP q2 q3 (und p4)) (codeP q2 q3 (und p5))) 27 : Nat) := by
    rw [choices6_eq, List.map_map]
    refine sum_pop _ _ _ fun i hi => (one6p t k3' k4 k5 hi).1.trans ?_
    have g1 : Gj (und p3) (und p4) (und p5) (fa i) (fb i) (fc i) 1 = _ := Gj_und t k3' k4 k5 (fa i) (fb i) (fc i) (pt := 1) (by decide)
    have g2 : Gj (und p3) (und p4) (und p5) (fa i) (fb i) (fc i) 2 = _ := Gj_und t k3' k4 k5 (fa i) (fb i) (fc i) (pt := 2) (by decide)
    have g3 : Gj (und p3) (und p4) (und p5) (fa i) (fb i) (fc i) 3 = _ := Gj_und t k3' k4 k5 (fa i) (fb i) (fc i) (pt := 3) (by decide)
    have := bitP (q2 := q2) h3 u3.2.1 u4.2.1 u5.2.1 hi
    rw [g1, g2, g3] at this
    exact this
  have cq := chkQ6
  simp only [List.all_eq_true, List.mem_range] at cq
  have c4 := hc p4 k4
  have c5 := hc p5 k5
  unfold chkCode at c4 c5
  simp only [Bool.and_eq_true, List.contains_iff_mem] at c4 c5
  have eqQ := Nat.eq_of_beq_eq_true (cq q2 (memB q2) q3 h3 _ (hs p3 k3).1 _ c4.1.1.1.1.1.1 _ c5.1.1.1.1.1.1)
  rw [pop27_ok, pop27_ok] at eqQ
  have ca := chkA6
  simp only [List.all_eq_true, List.mem_range, Bool.and_eq_true, beq_iff_eq] at ca
  obtain ⟨a1, a2⟩ := ca q2 (memB q2) q3 h3 _ (und6 k3) _ u4.1 _ u5.1
  rw [pop27_ok] at a1
  have hcut : cutsV [p0, p1, p2, p3, p4, p5] = cTT q2 q3 (und p3) (und p4) (und p5) := cuts_of fun pt h => mask6 t k3' k4 k5 h
  have mb : ∀ m ∈ cutsV [p0, p1, p2, p3, p4, p5], 1 ≤ m ∧ m < 64 := fun m hm => by
    rw [hcut] at hm
    obtain ⟨x, y⟩ := a2 m hm
    exact ⟨Nat.le_of_ble_eq_true x, Nat.lt_succ_of_le (Nat.le_of_ble_eq_true y)⟩
  refine ⟨fun pt h => ?_, mb, by rw [sQ, sP, eqQ], ?_, ?_⟩
  · exact mb _ (List.mem_append_left _ (List.mem_map.mpr ⟨pt, List.mem_range.mpr h, rfl⟩))
  · congr 1
    rw [choices6_eq]
    rw [List.map_map, List.map_map]
    exact List.map_congr_left fun i hi => (one6p t k3' k4 k5 (List.mem_range.mp hi)).2
  · rw [sU]
    unfold aloneB
    rw [hcut, ← a1]
    rw [Bool.eq_iff_iff]
    simp [Nat.beq_eq]
theorem net5_ok (k3 : p3 ∈ six) (k4 : p4 ∈ prs) : NetOk [p0, p1, p2, p3, p4] 5 := by
  have h3 := q3_lt t
  obtain ⟨hc, hs, h00⟩ := code_ok (q2 := q2) h3
  have k3' := (hs p3 k3).2
  have k5 : ((0, 0) : Int × Int) ∈ prs := by decide
  have sQ : ((choicesN 5).map fun ch => quarters [p0, p1, p2, p3, p4] (endsV [p0, p1, p2, p3, p4]) ch).sum = (pop (MM QB (codeP q2 q3 p3) (codeP q2 q3 p4) (codeP q2 q3 (0, 0))) 9 : Nat) := by
    rw [choices5_eq, List.map_map]
    exact sum_pop _ _ _ fun i hi => one5q t k3' k4 (by omega)
  have sP : ((choicesN 5).map fun ch => plain [p0, p1, p2, p3, p4] ch).sum = (pop (MM PB (codeP q2 q3 p3) (codeP q2 q3 p4) (codeP q2 q3 (0, 0))) 9 : Nat) := by
    rw [choices5_eq, List.map_map]
    exact sum_pop _ _ _ fun i hi => (one5p t k3' k4 (by omega)).1.trans (bitP h3 k3' k4 k5 (by omega))
  have u3 := und_ok k3'
  have u4 := und_ok k4
  have sU : ((choicesN 5).map fun ch => plain [p0, p1, p2, p3, p4] ch).sum = (pop (MM PB (codeP q2 q3 (und p3)) (codeP q2 q3 (und p4)) (codeP q2 q3 (0, 0))) 9 : Nat) := by
    rw [choices5_eq, List.map_map]
    refine sum_pop _ _ _ fun i hi => (one5p t k3' k4 (by omega)).1.trans ?_
    have g1 : Gj (und p3) (und p4) (und (0, 0)) (fa i) (fb i) (fc i) 1 = _ := Gj_und t k3' k4 k5 (fa i) (fb i) (fc i) (pt := 1) (by decide)
    have g2 : Gj (und p3) (und p4) (und (0, 0)) (fa i) (fb i) (fc i) 2 = _ := Gj_und t k3' k4 k5 (fa i) (fb i) (fc i) (pt := 2) (by decide)
    have g3 : Gj (und p3) (und p4) (und (0, 0)) (fa i) (fb i) (fc i) 3 = _ := Gj_und t k3' k4 k5 (fa i) (fb i) (fc i) (pt := 3) (by decide)
    have := bitP (q2 := q2) h3 u3.2.1 u4.2.1 k5 (i := i) (by omega)
    rw [und_all.2.2] at g1 g2 g3
    rw [g1, g2, g3] at this
    exact this
  rw [h00] at sQ sP sU
  have cq := chkQ5
  simp only [List.all_eq_true, List.mem_range] at cq
  have c4 := hc p4 k4
  unfold chkCode at c4
  simp only [Bool.and_eq_true, List.contains_iff_mem] at c4
  have eqQ := Nat.eq_of_beq_eq_true (cq q2 (memB q2) q3 h3 _ (hs p3 k3).1 _ c4.1.1.1.1.1.1)
  rw [pop9_ok, pop9_ok] at eqQ
  have ca := chkA5
  simp only [List.all_eq_true, List.mem_range, Bool.and_eq_true, beq_iff_eq] at ca
  obtain ⟨⟨a1, a2⟩, a3⟩ := ca q2 (memB q2) q3 h3 _ (und6 k3) _ u4.1
  rw [pop9_ok] at a1
  have hcut : cutsV [p0, p1, p2, p3, p4] = cTT q2 q3 (und p3) (und p4) (0, 0) := cuts_of fun pt h => mask5 t k3' k4 h
  have mb : ∀ m ∈ cutsV [p0, p1, p2, p3, p4], 1 ≤ m ∧ m < 64 := fun m hm => by
    rw [hcut] at hm
    obtain ⟨x, y⟩ := a2 m hm
    exact ⟨Nat.le_of_ble_eq_true x, Nat.lt_succ_of_le (Nat.le_of_ble_eq_true y)⟩
  refine ⟨fun pt h => ⟨?_, ?_⟩, mb, by rw [sQ, sP, eqQ], ?_, ?_⟩
  · exact (mb _ (List.mem_append_left _ (List.mem_map.mpr ⟨pt, List.mem_range.mpr h, rfl⟩))).1
  · rw [mask5 t k3' k4 h]
    exact Nat.lt_succ_of_le (Nat.le_of_ble_eq_true (a3 pt h))
  · congr 1
    rw [choices5_eq]
    rw [List.map_map, List.map_map]
    exact List.map_congr_left fun i hi => (one5p t k3' k4 (by have := List.mem_range.mp hi; omega)).2
  · rw [sU]
    unfold aloneB
    rw [hcut, ← a1]
    rw [Bool.eq_iff_iff]
    simp [Nat.beq_eq]
end
noncomputable def q3P (p : Int × Int) : Nat := if oddP p 2 then 2 else if oddP p 1 then 1 else 0
noncomputable def treeB (p0 p1 p2 : Int × Int) (e1 e2 e3 : Int) (q2 : Bool) (q3 : Nat) : Bool :=
  decide (e1 = 1 ∨ e1 = -1) && (decide (e2 = 1 ∨ e2 = -1) && (decide (e3 = 1 ∨ e3 = -1) && (decide (q3 = 0 ∨ q3 = 1 ∨ q3 = 2) &&
  (decide (cP p0 3 = 0 ∧ cP p1 3 = 0 ∧ cP p2 3 = e3) && (decide (cP p0 2 = 0 ∧ cP p1 2 = e2 ∧ cP p2 2 = if q3 = 2 then -e3 else 0) && (decide (cP p0 1 = e1 ∧ cP p1 1 = (if q2 then -e2 else 0) ∧ cP p2 1 = if q3 = 1 then -e3 else 0) && (decide (cP p0 0 = -e1 ∧ cP p1 0 = (if q2 then 0 else -e2) ∧ cP p2 0 = if q3 = 0 then -e3 else 0) &&
  (decide ((if p2.1 == 3 then (-1 : Int) else 1) = -e3) && (decide ((if p1.1 == 2 then (-1 : Int) else 1) = -e2) && (decide ((if p0.1 == 1 then (-1 : Int) else 1) = -e1) &&
  (decide (oddP p0 3 = false ∧ oddP p1 3 = false ∧ oddP p2 3 = true) && (decide (oddP p0 2 = false ∧ oddP p1 2 = true ∧ oddP p2 2 = (q3 == 2)) && (decide (oddP p0 1 = true ∧ oddP p1 1 = q2 ∧ oddP p2 1 = (q3 == 1)) && decide (oddP p0 0 = true ∧ oddP p1 0 = !q2 ∧ oddP p2 0 = (q3 == 0)))))))))))))))
noncomputable def l0 : List (Int × Int) := [(1, 0), (0, 1)]
noncomputable def l1 : List (Int × Int) := [(2, 0), (2, 1), (0, 2), (1, 2)]
theorem tree_all : (l0.all fun p0 => l1.all fun p1 => six.all fun p2 => treeB p0 p1 p2 (cP p0 1) (cP p1 2) (cP p2 3) (oddP p1 1) (q3P p2)) = true := by decide +kernel
theorem tree_of {p0 p1 p2 : Int × Int} {e1 e2 e3 : Int} {q2 : Bool} {q3 : Nat} (h : treeB p0 p1 p2 e1 e2 e3 q2 q3 = true) : Tree p0 p1 p2 e1 e2 e3 q2 q3 := by
  unfold treeB at h
  simp only [Bool.and_eq_true, decide_eq_true_eq] at h
  obtain ⟨a1, a2, a3, a4, a5, a6, a7, a8, a9, b1, b2, b3, b4, b5, b6⟩ := h
  exact ⟨a1, a2, a3, a4, a5, a6, a7, a8, a9, b1, b2, b3, b4, b5, b6⟩
theorem tree_ok {p0 p1 p2 : Int × Int} (h0 : p0 ∈ l0) (h1 : p1 ∈ l1) (h2 : p2 ∈ six) : Tree p0 p1 p2 (cP p0 1) (cP p1 2) (cP p2 3) (oddP p1 1) (q3P p2) := by
  have h := tree_all
  simp only [List.all_eq_true] at h
  exact tree_of (h p0 h0 p1 h1 p2 h2)
theorem pipe_at (c0 : Int) (i : Nat) (hi : i < 4) : pipeN c0 i = (ahd i, ((restN c0 i).fdiv 2).fmod (ahd i)) ∨ pipeN c0 i = (((restN c0 i).fdiv 2).fmod (ahd i), ahd i) := by
  have h4 : lt4 i = true := by unfold lt4; simp; omega
  unfold pipeN fstN lstN
  rw [h4]
  cases swpN c0 i
  · left; rfl
  · right; rfl
theorem pipe0 (c0 : Int) : pipeN c0 0 ∈ l0 := by
  have h := pipe_at c0 0 (by decide)
  have b := fm_b ((restN c0 0).fdiv 2) (n := ahd 0) (by decide)
  have e : ahd 0 = 1 := rfl
  rw [e] at h b
  have : ((restN c0 0).fdiv 2).fmod 1 = 0 := by omega
  rw [this] at h
  rcases h with h | h <;> rw [h] <;> decide
theorem pipe1 (c0 : Int) : pipeN c0 1 ∈ l1 := by
  have h := pipe_at c0 1 (by decide)
  have b := fm_b ((restN c0 1).fdiv 2) (n := ahd 1) (by decide)
  have e : ahd 1 = 2 := rfl
  rw [e] at h b
  generalize ((restN c0 1).fdiv 2).fmod 2 = x at *
  have : x = 0 ∨ x = 1 := by omega
  rcases this with rfl | rfl <;> rcases h with h | h <;> rw [h] <;> decide
theorem pipe23 (c0 : Int) (i : Nat) (hi : i = 2 ∨ i = 3) : pipeN c0 i ∈ six := by
  have h := pipe_at c0 i (by omega)
  have e : ahd i = 3 := by rcases hi with rfl | rfl <;> rfl
  have b := fm_b ((restN c0 i).fdiv 2) (n := ahd i) (by rw [e]; decide)
  rw [e] at h b
  generalize ((restN c0 i).fdiv 2).fmod 3 = x at *
  have : x = 0 ∨ x = 1 ∨ x = 2 := by omega
  rcases this with rfl | rfl | rfl <;> rcases h with h | h <;> rw [h] <;> decide
theorem prs_mem {p : Int × Int} (h : (0 ≤ p.1 ∧ p.1 < 4) ∧ (0 ≤ p.2 ∧ p.2 < 4)) : p ∈ prs := by
  obtain ⟨⟨a, b⟩, c, d⟩ := h
  obtain ⟨x, y⟩ := p
  have hx : x = 0 ∨ x = 1 ∨ x = 2 ∨ x = 3 := by simp at a b; omega
  have hy : y = 0 ∨ y = 1 ∨ y = 2 ∨ y = 3 := by simp at c d; omega
  rcases hx with rfl | rfl | rfl | rfl <;> rcases hy with rfl | rfl | rfl | rfl <;> decide
theorem net_ok (c0 : Int) (N : Nat) (hN : N = 5 ∨ N = 6) : NetOk (pipesN c0 N) N := by
  have t := tree_ok (pipe0 c0) (pipe1 c0) (pipe23 c0 2 (.inl rfl))
  rcases hN with rfl | rfl
  · exact net5_ok t (pipe23 c0 3 (.inr rfl)) (prs_mem (pipeN_b c0 4))
  · exact net6_ok t (pipe23 c0 3 (.inr rfl)) (prs_mem (pipeN_b c0 4)) (prs_mem (pipeN_b c0 5))
theorem pl_ok (x0 x1 x2 : Int) : PL x0 x1 x2 := by
  have hN := sizeN_b x2
  have n := net_ok x0 (sizeN x2) hN
  obtain ⟨hlen, n1, e1, e2⟩ := lex_all x0 x1 x2 (sizeN x2) (by omega)
  have et : tokn (lexN (textCs (textN x0 x1 (sizeN x2) ++ endT x2)) (sizeN x2)).1 (lexN (textCs (textN x0 x1 (sizeN x2) ++ endT x2)) (sizeN x2)).2 = ([101, 110, 100], 1 + Txt.count (textN x0 x1 (sizeN x2)) "\n", []) := by
    rw [e1]; exact e2
  refine ⟨fun i hi => ?_, hlen, ?_, ?_, ?_, ?_, n.m1, n.m7, n.sq, n.sc, n.al⟩
  · rw [textCs_app]; exact lex_tok x0 x1 _ _ i hi
  · rw [et]; exact Nat.zero_le _
  · rw [et]; rfl
  · rw [et]; rfl
  · rw [et]; rfl
theorem vrs_ints {h : Heap} {τ : Nat} {P : Addr → Prop} : ∀ {vs : List Value} {ns : List Int}, IntsAre vs ns → VRs h τ P (ns.map .int) vs
  | _, _, .nil => .nil
  | _, _, .cons n t r => .cons .int (vrs_ints r)
theorem rm_caller : Rm callerA 10 := ⟨rfl, by decide, by decide⟩
theorem gG_both {w : World} {s : Shared} {p : Program} {loose : List Str} {mean : ExcName → Option Value} {mg mb : Str → Option Value} (hT : TabsAt tabsL s.heap) (X : (fr.heap_1 w.params).In s.heap) (T : Top p loose mean mg mb s.heap) (hg : s.gens = #[]) :
    ∃ l, GN (gG w s.heap l mean mg mb) ∧ Glob (gG w s.heap l mean mg mb) NT { s with toks := s.toks + 1 } := ⟨_, gG_ok hT X T, gG_glob hT hg⟩
theorem hd.tw4555462946037337122 : True := trivial
theorem hd.tw14076254138646207827 : True := trivial
theorem hd.tw3039998526598829958 : True := trivial
theorem hd.tw4497830722541842637 : True := trivial
theorem hd.tw8638756108113873008 : True := trivial
theorem hd.tw4172343393113369950 : True := trivial
theorem hd.tw11162318198679636149 : True := trivial
theorem hd.tw13844380318115746083 : True := trivial
theorem hd.tw13855881374063213867 : True := trivial
theorem hd.tw16829038064831673031 : True := trivial
theorem hd.tw6245462706441815368 : True := trivial
theorem hd.tw7822882547125802209 : True := trivial
theorem hd.tw15955140184888088701 : True := trivial
theorem hd.tw5657824000916062451 : True := trivial
theorem hd.tw5978321128707920903 : True := trivial
theorem hd.tw16194383521188589630 : True := trivial
theorem hd.tw978945382295711627 : True := trivial
theorem hd.tw9170477692918782315 : True := trivial
theorem hd.tw1664623461322820018 : True := trivial
theorem hd.tw7752767780024739350 : True := trivial
theorem hd.tw16056359734778111409 : True := trivial
theorem hd.tw9421340871869096474 : True := trivial
theorem hd.tw701787995468756871 : True := trivial
theorem hd.tw6293948785866598258 : True := trivial
theorem hd.tw15527848837575444561 : True := trivial
theorem hd.tw10403243965636340961 : True := trivial
theorem hd.tw12487502673411948298 : True := trivial
theorem hd.tw1600037746751723098 : True := trivial
theorem hd.tw10246146449241189800 : True := trivial
theorem hd.tw6291416237084387574 : True := trivial
theorem hd.tw1382963296337349011 : True := trivial
theorem hd.tw17252143746492648416 : True := trivial
theorem hd.tw18300207936620678264 : True := trivial
theorem hd.tw6767318904944593275 : True := trivial
theorem hd.tw14168552714766633299 : True := trivial
theorem hd.tw9641152695372364146 : True := trivial
theorem hd.tw11917015161858427179 : True := trivial
theorem hd.tw3646829019195819677 : True := trivial
theorem hd.tw2195365466389143174 : True := trivial
theorem hd.tw11631947586910100387 : True := trivial
theorem hd.tw11652457597714270106 : True := trivial
theorem hd.tw10258999931320997221 : True := trivial
theorem hd.tw11319097763535126812 : True := trivial
theorem hd.tw8960069828448710407 : True := trivial
theorem hd.tw17183224562656869120 : True := trivial
theorem hd.tw4014540891139286612 : True := trivial
theorem hd.tw17542962492245011380 : True := trivial
theorem hd.tw11032806212648032379 : True := trivial
theorem hd.tw1580110805410547442 : True := trivial
theorem hd.tw13770079208771991547 : True := trivial
theorem hd.tw4494801613693538912 : True := trivial
theorem hd.tw15790720579355451973 : True := trivial
theorem hd.tw10603584201595350602 : True := trivial
theorem hd.tw6060742912462422084 : True := trivial
theorem hd.tw17574625026820762457 : True := trivial
theorem hd.tw15837987909243819085 : True := trivial
theorem hd.tw4478166936697009375 : True := trivial
theorem hd.tw16432713993328977331 : True := trivial
theorem hd.tw6276725880618359904 : True := trivial
theorem hd.tw11136197038861592535 : True := trivial
set_option Elab.async true in
set_option maxHeartbeats 8000000 in
theorem hd : PySem.Challenge.rw_wc0010_01.Holds := by
  w_on
  o_law
  o_head (kmHook fr.heap_1 [2, 3, 15, 17, 18, 20, 21, 22, 24, 25, 27, 28, 29, 31, 32, 34, 35, 36, 38, 39, 41, 42, 43, 45, 46, 48, 49, 50, 52, 53, 55, 56, 57, 59, 60, 62, 63, 64, 66, 67, 69, 70, 71, 73, 74, 76, 77, 78, 79, 81, 82, 84, 85, 93, 95, 96, 98, 99, 100, 102, 103, 105, 106, 107, 109, 110, 112, 113, 114, 116, 117, 119, 120, 121, 122, 123, 124, 125, 128, 130, 131, 133, 134, 135, 138, 139, 140, 142, 143, 145, 146, 147, 150, 151, 152, 154, 155, 157, 158, 159, 161, 162, 164, 165, 166, 168, 169, 171, 172, 173, 176, 177] (fun _ => by kernel_rfl) [44, 129, 37])
  case hw => w_witness2
  intro w s₀ s₁ mg mb Gd Y fa o pm cd doc dV kV ho hd' hcd hD hmg hgens args vals as hpre hlay hrd hwl hlo
  have KX : (fr.heap_1 w.params).In s₁.heap := km_in_of Y
  have hT8 := km_tabs_of Y
  have T := Gd.T
  have hT9 : TabsAt tabsL s₁.heap := List.forall_mem_cons.mpr ⟨⟨codeHd_of_K KX (by kernel_rfl), hT8 44 (by simp)⟩, List.forall_mem_cons.mpr ⟨⟨codeHd_of_K KX (by kernel_rfl), hT8 129 (by simp)⟩, List.forall_mem_cons.mpr ⟨⟨codeHd_of_K KX (by kernel_rfl), hT8 37 (by simp)⟩, fun _ h => nomatch h⟩⟩⟩
  have h177 : mg (Str.ofString "law") = some (.ref 177) := mg_of KX T.g (by rfl)
  have hfa : fa = 177 := by
    have h2 : mg (Str.ofString "law") = some (.ref fa) := hmg
    rw [h177] at h2
    exact (Value.ref.inj (Option.some.inj h2)).symm
  subst hfa
  obtain ⟨ll, g, gl⟩ := gG_both hT9 KX T hgens
  clear Y hd' hD hcd ho
  wrow_args hpre hlay hrd hwl hlo
  rename_i ns hs hlay0 hL1 hr1 hl2 z4 z3 a vs z0 hL ra w1 r0 hI hr hc1 hc2
  have ha : NT a := fun q => by
    obtain ⟨o, e, hc, _⟩ := hL
    have : ∃ q ∈ tabsL, q.2 = a := by
      simp only [Tb, List.mem_cons, List.not_mem_nil, or_false] at q
      rcases q with rfl | rfl | rfl
      · exact ⟨(41, 37), by simp, rfl⟩
      · exact ⟨(48, 44), by simp, rfl⟩
      · exact ⟨(133, 129), by simp, rfl⟩
    obtain ⟨t, ht, e3⟩ := this
    rw [← e3, (hT9 t ht).2] at e
    cases e; cases hc
  have hz : ns.length ≤ 1000 := by omega
  refine fn_law g rm_caller rfl gl (v := .ref a) (ns := ns) (.list ha hL (vrs_ints hI)) hz (fun x0 x1 x2 _ _ _ => pl_ok x0 x1 x2) fun s' x => ?_
  obtain ⟨h2, tk2, e2⟩ := x.same
  refine ⟨.inl ⟨.bool true, .bool true, [], rfl, ?_, ?_, ?_, ?_⟩, oldK hT9 hgens x, by rw [e2], .of_eq (by rw [e2]; exact hgens)⟩
  · exact raisesW_false (by wrow_none_raised)
  · exact .bool true
  · wrow_post
  · exact unshared_nil
end Mine
theorem PySem.Challenge.cw_wc0010_01_holds : PySem.Challenge.rw_wc0010_01.Holds := by
  exact Mine.hd
