import PyProof.Rows.All
import Wide.All
import OpenK.AllK
import Wide.FinOn
import PySem.Challenge.RW_xl0001_02
section
open PySem PySem.W PyProof.Rows
set_option Elab.async false
set_option maxRecDepth 100000
set_option linter.unusedVariables false
namespace Mine

/-! ## heaps, specs -/
noncomputable def Sub (h h' : Heap) : Prop := ∀ b o, h.get? b = some o → h'.get? b = some o
theorem Sub.refl (h : Heap) : Sub h h := fun _ _ e => e
theorem Sub.trans {a b c : Heap} (x : Sub a b) (y : Sub b c) : Sub a c := fun _ _ e => y _ _ (x _ _ e)

noncomputable abbrev hid (Z : List Addr) (h : Heap) : Heap := hideAll h Z
theorem hid_sub (Z : List Addr) (h : Heap) : Sub (hid Z h) h := fun _ _ e => of_hideAll Z e
theorem hid_get {Z : List Addr} {h : Heap} {b : Addr} {o : Obj} (e : h.get? b = some o) (n : b ∉ Z) : (hid Z h).get? b = some o := hideAll_get Z e n
theorem hid_none {Z : List Addr} {h : Heap} {b : Addr} (m : b ∈ Z) : (hid Z h).get? b = none := hideAll_none Z m
theorem hid_mono {Z : List Addr} {h h' : Heap} (k : ∀ b o, b ∉ Z → h.get? b = some o → h'.get? b = some o) : Sub (hid Z h) (hid Z h') := fun b o e => by
  by_cases m : b ∈ Z
  · rw [hid_none m] at e; cases e
  · exact hid_get (k b o m (of_hideAll Z e)) m
theorem hid_sub_mono {Z : List Addr} {h h' : Heap} (k : Sub h h') : Sub (hid Z h) (hid Z h') := hid_mono fun b o _ e => k b o e
theorem hid_less {Z Z' : List Addr} {h : Heap} (k : ∀ a ∈ Z', a ∈ Z) : Sub (hid Z h) (hid Z' h) := fun b o e => by
  by_cases m : b ∈ Z'
  · rw [hid_none (k b m)] at e; cases e
  · exact hid_get (of_hideAll Z e) m

noncomputable abbrev Sp := Heap → Value → Prop
noncomputable def Mono (S : Sp) : Prop := ∀ h h' v, Sub h h' → S h v → S h' v
noncomputable def I (i : Int) : Sp := fun _ v => ∃ t, v = .int i t
noncomputable def T (x : Str) : Sp := fun _ v => ∃ t, v = .str x t
noncomputable def Bo (b : Bool) : Sp := fun _ v => v = .bool b
noncomputable def By (b : Array UInt8) : Sp := fun _ v => ∃ t, v = .bytes b t
noncomputable def No : Sp := fun _ v => v = .none
noncomputable def V (u : Value) : Sp := fun _ v => v = u
noncomputable def Ls {α : Type} (R : α → Sp) (xs : List α) : Sp := fun h v => ∃ a vs, v = .ref a ∧ h.PlainList a vs ∧ Paired (fun x v => R x h v) xs vs.toList
noncomputable def T2 {α β : Type} (R : α → Sp) (S : β → Sp) (p : α × β) : Sp := fun h v => ∃ a x y, v = .ref a ∧ h.IsTuple a #[x, y] ∧ R p.1 h x ∧ S p.2 h y
noncomputable def T3 {α β γ : Type} (R : α → Sp) (S : β → Sp) (U : γ → Sp) (p : α × β × γ) : Sp := fun h v => ∃ a x y z, v = .ref a ∧ h.IsTuple a #[x, y, z] ∧ R p.1 h x ∧ S p.2.1 h y ∧ U p.2.2 h z

noncomputable def Flat (S : Sp) : Prop := ∀ h h' v, S h v → S h' v
theorem Flat.mono {S : Sp} (f : Flat S) : Mono S := fun h h' v _ x => f h h' v x
theorem flat_I (i) : Flat (I i) := fun _ _ _ x => x
theorem flat_Bo (i) : Flat (Bo i) := fun _ _ _ x => x
theorem flat_By (i) : Flat (By i) := fun _ _ _ x => x
theorem flat_V (i) : Flat (V i) := fun _ _ _ x => x
theorem mono_I (i) : Mono (I i) := (flat_I i).mono
theorem paired_imp {α β : Type} {F G : α → β → Prop} (k : ∀ a b, F a b → G a b) : ∀ {l : List α} {m : List β}, Paired F l m → Paired G l m
  | _, _, .nil => .nil
  | _, _, .cons x t => .cons (k _ _ x) (paired_imp k t)
theorem plainList_sub {h h' : Heap} {a : Addr} {vs : Array Value} (k : Sub h h') (x : h.PlainList a vs) : h'.PlainList a vs := let ⟨n, e⟩ := x; ⟨n, k _ _ e⟩
theorem isTuple_sub {h h' : Heap} {a : Addr} {vs : Array Value} (k : Sub h h') (x : h.IsTuple a vs) : h'.IsTuple a vs := let ⟨o, e, r⟩ := x; ⟨o, k _ _ e, r⟩
theorem mono_Ls {α : Type} {R : α → Sp} (m : ∀ x, Mono (R x)) (xs : List α) : Mono (Ls R xs) := fun h h' v k ⟨a, vs, e, p, q⟩ =>
  ⟨a, vs, e, plainList_sub k p, paired_imp (fun x v r => m x h h' v k r) q⟩
theorem mono_T2 {α β : Type} {R : α → Sp} {S : β → Sp} (m : ∀ x, Mono (R x)) (n : ∀ x, Mono (S x)) (p : α × β) : Mono (T2 R S p) := fun h h' v k ⟨a, x, y, e, t, r, s⟩ =>
  ⟨a, x, y, e, isTuple_sub k t, m _ h h' _ k r, n _ h h' _ k s⟩
theorem mono_T3 {α β γ : Type} {R : α → Sp} {S : β → Sp} {U : γ → Sp} (m : ∀ x, Mono (R x)) (n : ∀ x, Mono (S x)) (o : ∀ x, Mono (U x)) (p : α × β × γ) : Mono (T3 R S U p) := fun h h' v k ⟨a, x, y, z, e, t, r, s, u⟩ =>
  ⟨a, x, y, z, e, isTuple_sub k t, m _ h h' _ k r, n _ h h' _ k s, o _ h h' _ k u⟩

/-! ## room, keeping -/
structure Rm (n : Nat) (A : Around) : Prop where
  hh : A.handled = none
  depth : A.depth + n < 1000
  units : A.units + 20 * n < 9900
theorem Rm.le {n m : Nat} {A : Around} (x : Rm n A) (k : m ≤ n) : Rm m A := ⟨x.hh, by have := x.depth; lia, by have := x.units; lia⟩

theorem keeps_refl (s : Shared) : Keeps s s := ⟨s.heap, s.toks, rfl, fun _ _ e => e⟩
theorem keeps_tok (s : Shared) (k : Nat) : Keeps s { s with toks := k } := ⟨s.heap, k, rfl, fun _ _ e => e⟩
theorem ksub {s s' : Shared} (k : Keeps s s') : Sub s.heap s'.heap := by obtain ⟨h', tk, rfl, x⟩ := k; exact x
theorem ktr {a b c : Shared} (x : Keeps a b) (y : Keeps b c) : Keeps a c := by
  obtain ⟨h', tk, rfl, x⟩ := x
  obtain ⟨h'', tk', rfl, y⟩ := y
  exact ⟨h'', tk', rfl, fun b o e => y b o (x b o e)⟩

section
variable {prog : Program} {w : World}

/-- e evaluates, from every state above h, to something that S says of it -/
noncomputable def EV (prog : Program) (w : World) (n : Nat) (Z : List Addr) (env : Env) (h : Heap) (e : Expr) (S : Sp) : Prop :=
  ∀ A s E, Rm n A → Sub h s.heap → wpAny (model prog w) A (eval e env) (fun v s' => Keeps s s' ∧ S (hid Z s'.heap) v) E s

theorem EV.imp {n Z Z' env h e S S'} (x : EV prog w n Z env h e S) (k : ∀ h v, S (hid Z h) v → S' (hid Z' h) v) : EV prog w n Z' env h e S' :=
  fun A s E r k' => wpAny_mono (x A s E r k') (fun v s' y => ⟨y.1, k _ _ y.2⟩) fun _ _ y => y
theorem EV.z {n Z env h e S} (x : EV prog w n Z env h e S) (f : Flat S) (Z' : List Addr) : EV prog w n Z' env h e S := x.imp fun h v y => f _ _ _ y
theorem ev_int {n Z env h i k pos} : EV prog w n Z env h (.Constant (.int i) k pos) (I i) := fun A s E _ _ => wpAny_Constant_int ⟨keeps_tok s _, _, rfl⟩
theorem ev_str {n Z env h x k pos} : EV prog w n Z env h (.Constant (.str x) k pos) (T x) := fun A s E _ _ => Calls.Constant_str ⟨keeps_tok s _, _, rfl⟩
theorem ev_bytes {n Z env h} {x : List UInt8} {k pos} : EV prog w n Z env h (.Constant (.bytes x) k pos) (By x.toArray) := fun A s E _ _ _ _ _ => ⟨keeps_tok s _, _, rfl⟩
theorem ev_bool {n Z env h x k pos} : EV prog w n Z env h (.Constant (.bool x) k pos) (Bo x) := fun A s E _ _ _ _ _ => ⟨keeps_refl s, rfl⟩
theorem ev_none {n Z env h k pos} : EV prog w n Z env h (.Constant .none k pos) No := fun A s E _ _ _ _ _ => ⟨keeps_refl s, rfl⟩

/-- a binary operation, its rule given -/
theorem ev_bin {n Z Z1 Z2 env h e1 e2 op pos} {S1 S2 S : Sp} (x : EV prog w n Z1 env h e1 S1) (y : EV prog w n Z2 env h e2 S2) (m : Mono S1)
    (r : ∀ A s E a b, Rm n A → S1 (hid Z1 s.heap) a → S2 (hid Z2 s.heap) b → wpAny (model prog w) A (binaryOp op a b) (fun v s' => Keeps s s' ∧ S (hid Z s'.heap) v) E s) :
    EV prog w n Z env h (.BinOp e1 op e2 pos) S := fun A s E rm k =>
  wpAny_BinOp (wpAny_mono (x A s E rm k) (fun a s1 ⟨k1, h1⟩ => wpAny_mono (y A s1 E rm (k.trans (ksub k1))) (fun b s2 ⟨k2, h2⟩ =>
    wpAny_mono (r A s2 E a b rm (m _ _ _ (hid_sub_mono (ksub k2)) h1) h2) (fun v s3 ⟨k3, h3⟩ => ⟨ktr (ktr k1 k2) k3, h3⟩) fun _ _ e => e) fun _ _ e => e) fun _ _ e => e)
/-- an operation on two values: what it gives is no thing that can turn -/
noncomputable def BinR (prog : Program) (w : World) (n : Nat) (op : Operator) (S1 S2 S : Sp) : Prop := ∀ A (s : Shared) Z1 Z2 Z E a b, Rm n A → S1 (hid Z1 s.heap) a → S2 (hid Z2 s.heap) b →
  wpAny (model prog w) A (binaryOp op a b) (fun v s' => Keeps s s' ∧ S (hid Z s'.heap) v) E s
theorem ev_binr {n Z env h e1 e2 op pos} {S1 S2 S : Sp} (x : EV prog w n [] env h e1 S1) (y : EV prog w n [] env h e2 S2) (m : Mono S1) (r : BinR prog w n op S1 S2 S) : EV prog w n Z env h (.BinOp e1 op e2 pos) S :=
  ev_bin x y m fun A s E a b rm ha hb => r A s [] [] Z E a b rm ha hb
theorem bin_add {n a b} : BinR prog w n .Add (I a) (I b) (I (a + b)) := fun A s _ _ _ E v u _ ⟨t, e⟩ ⟨t', e'⟩ => by subst e e'; exact P.add_int ⟨keeps_tok s _, _, rfl⟩
theorem bin_sub {n a b} : BinR prog w n .Sub (I a) (I b) (I (a - b)) := fun A s _ _ _ E v u _ ⟨t, e⟩ ⟨t', e'⟩ => by subst e e'; exact P.sub_int ⟨keeps_tok s _, _, rfl⟩
theorem bin_mul {n a b} (f : IntMulOk a b) : BinR prog w n .Mult (I a) (I b) (I (a * b)) := fun A s _ _ _ E v u _ ⟨t, e⟩ ⟨t', e'⟩ => by subst e e'; exact P.mul_int ⟨keeps_tok s _, _, rfl⟩ f
theorem bin_mod {n a b} (f : b ≠ 0) : BinR prog w n .Mod (I a) (I b) (I (a.fmod b)) := fun A s _ _ _ E v u _ ⟨t, e⟩ ⟨t', e'⟩ => by subst e e'; exact PyProof.Rows.mod_int f ⟨keeps_tok s _, _, rfl⟩
theorem bin_fdiv {n a b} (f : b ≠ 0) (p : b.natAbs < 1073741824) : BinR prog w n .FloorDiv (I a) (I b) (I (a.fdiv b)) := fun A s _ _ _ E v u _ ⟨t, e⟩ ⟨t', e'⟩ => by
  subst e e'; exact PyProof.Rows.floordiv_int f ⟨keeps_tok s _, _, rfl⟩ (.inl (PyProof.noPylong_small p))
theorem bin_pow {n a b} (f : 0 ≤ b) (p : b ≤ 1000000) (q : a.natAbs < 2 ^ 64) : BinR prog w n .Pow (I a) (I b) (I (a ^ b.toNat)) := fun A s _ _ _ E v u _ ⟨t, e⟩ ⟨t', e'⟩ => by
  subst e e'; exact PyProof.Rows.pow_int_small f p q ⟨keeps_tok s _, _, rfl⟩
theorem bin_addbytes {n} {a b : Array UInt8} (f : a.size + b.size ≤ 16777216) : BinR prog w n .Add (By a) (By b) (By (a ++ b)) := fun A s _ _ _ E v u _ ⟨t, e⟩ ⟨t', e'⟩ => by
  subst e e'; exact KBy.add_bytes f (fun t' k => ⟨keeps_tok s _, _, rfl⟩)
end
end Mine
end
section
open PySem PySem.W PyProof.Rows
set_option Elab.async false
set_option maxRecDepth 100000
set_option linter.unusedVariables false
namespace Mine

inductive VarIs (env : Env) (h : Heap) (x : Str) (v : Value) : Prop
  | loc {m : Str → Option Value} (hl : env.kindOf x = some .local) (hn : h.Ns env.locals m) (hm : m x = some v) : VarIs env h x v
  | cell {c : Addr} (hl : env.kindOf x = some .cell ∨ (env.kindOf x = some .free ∧ (x == ("__classdict__" : Str)) = false)) (hc : env.cells.lookup x = some c) (hv : h.IsCell c (some v)) : VarIs env h x v
theorem VarIs.sub {env h h' x v} (k : Sub h h') (y : VarIs env h x v) : VarIs env h' x v := by
  cases y with
  | loc hl hn hm => exact .loc hl (hn.keeps k) hm
  | cell hl hc hv => exact .cell hl hc (hv.keeps k)

/-- what is known of the names -/
structure Loc (env : Env) (Z : List Addr) (ρ : List (Str × Sp)) (h : Heap) : Prop where
  kind : env.scope.kind = .function
  vars : ∀ x S, ρ.lookup x = some S → Mono S ∧ ∃ v, VarIs env h x v ∧ S (hid Z h) v
theorem Loc.sub {env Z ρ h h'} (k : Sub h h') (L : Loc env Z ρ h) : Loc env Z ρ h' := ⟨L.kind, fun x S e => let ⟨m, v, a, b⟩ := L.vars x S e; ⟨m, v, a.sub k, m _ _ _ (hid_sub_mono k) b⟩⟩

noncomputable abbrev MSp := Heap → Obj → Prop
noncomputable def MonoM (P : MSp) : Prop := ∀ h h' o, Sub h h' → P h o → P h' o

structure Fm (H : Heap) (env : Env) (X Z : List Addr) (μ : List (Addr × MSp)) (ρ : List (Str × Sp)) (h : Heap) : Prop where
  kind : env.scope.kind = .function
  sub : Sub H h
  zz : ∀ z ∈ X, H.get? z = none
  xz : ∀ z ∈ X, z ∈ Z
  ns : ∃ m, h.Ns env.locals m
  cells : ∀ x c, env.kindOf x = some .cell → env.cells.lookup x = some c → (∃ v, h.IsCell c v) ∧ c ∈ X
  apart : ∀ x y c, env.cells.lookup x = some c → env.cells.lookup y = some c → x = y
  alive : ∀ x c, env.cells.lookup x = some c → ∃ o, h.get? c = some o
  L : env.locals ∈ X
  vars : ∀ x S, ρ.lookup x = some S → Mono S ∧ env.kindOf x ≠ some .free ∧ ∃ v, VarIs env h x v ∧ S (hid Z h) v
  own : ∀ p ∈ μ, p.1 ∈ X ∧ MonoM p.2 ∧ p.1 ≠ env.locals ∧ (∀ x, env.cells.lookup x ≠ some p.1) ∧ ∃ o, h.get? p.1 = some o ∧ p.2 (hid Z h) o
  nodup : (μ.map (·.1)).Nodup
  live : ∀ z ∈ Z, ∃ o, h.get? z = some o
section
variable {H : Heap} {env : Env} {X Z : List Addr} {μ : List (Addr × MSp)} {ρ : List (Str × Sp)} {h h' : Heap}
theorem Fm.loc (F : Fm H env X Z μ ρ h) : Loc env Z ρ h := ⟨F.kind, fun x S e => let ⟨m, _, y⟩ := F.vars x S e; ⟨m, y⟩⟩
theorem Fm.keep (F : Fm H env X Z μ ρ h) (k : Sub h h') : Fm H env X Z μ ρ h' where
  kind := F.kind
  sub := F.sub.trans k
  zz := F.zz
  xz := F.xz
  ns := let ⟨m, y⟩ := F.ns; ⟨m, y.keeps k⟩
  cells := fun x c e e' => let ⟨⟨v, y⟩, z⟩ := F.cells x c e e'; ⟨⟨v, y.keeps k⟩, z⟩
  apart := F.apart
  alive := fun x c e => let ⟨o, y⟩ := F.alive x c e; ⟨o, k _ _ y⟩
  L := F.L
  vars := fun x S e => let ⟨m, f, v, a, b⟩ := F.vars x S e; ⟨m, f, v, a.sub k, m _ _ _ (hid_sub_mono k) b⟩
  own := fun p hp => let ⟨a, b, c, d, o, e, f⟩ := F.own p hp; ⟨a, b, c, d, o, k _ _ e, b _ _ _ (hid_sub_mono k) f⟩
  nodup := F.nodup
  live := fun z m => let ⟨o, e⟩ := F.live z m; ⟨o, k _ _ e⟩
theorem Fm.rho (F : Fm H env X Z μ ρ h) {ρ' : List (Str × Sp)} (k : ∀ x S, ρ'.lookup x = some S → ρ.lookup x = some S) : Fm H env X Z μ ρ' h :=
  { F with vars := fun x S e => F.vars x S (k x S e) }
theorem Ns.ne_cell {a c : Addr} {m : Str → Option Value} {v : Option Value} (x : h.Ns a m) (y : h.IsCell c v) : a ≠ c := by
  rintro rfl
  obtain ⟨o, es, ep, e, d, _⟩ := x
  obtain ⟨o', e', d'⟩ := y
  rw [e] at e'; cases e'; rw [d] at d'; cases d'
theorem sb_hid {z : Addr} (m : z ∈ Z) (k : Heap.SameBut z h h') : Sub (hid Z h) (hid Z h') := hid_mono fun b o n e => (k.2 b fun q => n (q ▸ m)).trans e
theorem Fm.sb (F : Fm H env X Z μ ρ h) {z : Addr} (m : z ∈ X) (k : Heap.SameBut z h h') : Sub H h' := fun b o e => (k.2 b fun q => by rw [q, F.zz z m] at e; cases e).trans (F.sub b o e)

/-- a name of the frame is stored -/
theorem Fm.put (F : Fm H env X Z μ ρ h) {x : Str} {v : Value} {S : Sp} (mS : Mono S) (hS : S (hid Z h) v) {z : Addr}
    (k : Heap.SameBut z h h') (hv : VarIs env h' x v) (hf : env.kindOf x ≠ some .free)
    (hz : (z = env.locals ∧ env.kindOf x = some .local ∧ ∃ m, h.Ns env.locals m ∧ h'.Ns env.locals (fun y => if y = x then some v else m y)) ∨
      (env.kindOf x = some .cell ∧ env.cells.lookup x = some z ∧ h'.IsCell z (some v))) : Fm H env X Z μ ((x, S) :: ρ) h' := by
  have mz : z ∈ X := by
    rcases hz with ⟨rfl, _⟩ | ⟨a, b, _⟩
    · exact F.L
    · exact (F.cells x z a b).2
  have kh := sb_hid (F.xz _ mz) k
  refine { kind := F.kind, sub := F.sb mz k, zz := F.zz, xz := F.xz, ns := ?_, cells := fun y c e e' => ⟨?_, (F.cells y c e e').2⟩, apart := F.apart, alive := fun y c e => ?_, L := F.L, vars := fun y S' e => ?_, own := fun p hp => ?_, nodup := F.nodup, live := fun y m => ?_ }
  · rcases hz with ⟨_, _, m, _, n'⟩ | ⟨a, b, c⟩
    · exact ⟨_, n'⟩
    · obtain ⟨m, n⟩ := F.ns
      obtain ⟨⟨v0, q⟩, _⟩ := F.cells x z a b
      exact ⟨m, n.sameBut k (Ns.ne_cell n q)⟩
  · obtain ⟨⟨v0, q⟩, _⟩ := F.cells y c e e'
    rcases hz with ⟨rfl, _, m, n, _⟩ | ⟨a, b, d⟩
    · exact ⟨v0, q.sameBut k (Ne.symm (Ns.ne_cell n q))⟩
    · by_cases hc : c = z
      · subst hc; exact ⟨_, d⟩
      · exact ⟨v0, q.sameBut k hc⟩
  · obtain ⟨o, q⟩ := F.alive y c e
    by_cases hc : c = z
    · subst hc
      rcases hz with ⟨rfl, _, m, _, o, _, _, n', _⟩ | ⟨a, b, o, d, _⟩
      · exact ⟨_, n'⟩
      · exact ⟨_, d⟩
    · exact ⟨o, (k.2 c hc).trans q⟩
  · by_cases hy : y = x
    · subst hy
      rw [List.lookup_cons, beq_self_eq_true] at e
      cases e
      exact ⟨mS, hf, v, hv, mS _ _ _ kh hS⟩
    · have : (y == x) = false := by simpa using hy
      rw [List.lookup_cons, this] at e
      obtain ⟨m, f, u, q, r⟩ := F.vars y S' e
      refine ⟨m, f, u, ?_, m _ _ _ kh r⟩
      cases q with
      | loc hl hn hm =>
        rcases hz with ⟨_, _, m0, n, n'⟩ | ⟨a, b, c⟩
        · refine .loc hl n' ?_
          show (if y = x then _ else m0 y) = _
          rw [if_neg hy, n.agree hn y]; exact hm
        · obtain ⟨⟨v0, q⟩, _⟩ := F.cells x z a b
          exact .loc hl (hn.sameBut k (Ns.ne_cell hn q)) hm
      | cell hl hc hv =>
        rcases hz with ⟨rfl, _, m, n, _⟩ | ⟨a, b, d⟩
        · exact .cell hl hc (hv.sameBut k (Ne.symm (Ns.ne_cell n hv)))
        · rename_i c
          have : c ≠ z := fun q => hy (F.apart y x c hc (q ▸ b))
          exact .cell hl hc (hv.sameBut k this)
  · obtain ⟨a, b, c, d, o, e, f⟩ := F.own p hp
    refine ⟨a, b, c, d, o, (k.2 _ fun q => ?_).trans e, b _ _ _ kh f⟩
    rcases hz with ⟨r, _⟩ | ⟨_, r, _⟩
    · exact c (q.trans r)
    · exact d x (q ▸ r)
  · obtain ⟨o, q⟩ := F.live y m
    by_cases hc : y = z
    · subst hc
      rcases hz with ⟨rfl, _, m, _, o, _, _, n', _⟩ | ⟨a, b, o, d, _⟩
      · exact ⟨_, n'⟩
      · exact ⟨_, d⟩
    · exact ⟨o, (k.2 y hc).trans q⟩
end

noncomputable def Like (s s' : Shared) : Prop := ∃ h' tk, s' = { s with heap := h', toks := tk }
theorem Like.refl (s : Shared) : Like s s := ⟨s.heap, s.toks, rfl⟩
theorem Like.trans {a b c : Shared} (x : Like a b) (y : Like b c) : Like a c := by obtain ⟨_, _, rfl⟩ := x; obtain ⟨_, _, rfl⟩ := y; exact ⟨_, _, rfl⟩
theorem klike {a b : Shared} (x : Keeps a b) : Like a b := by obtain ⟨_, _, e, _⟩ := x; exact ⟨_, _, e⟩

section
variable {prog : Program} {w : World} {H : Heap} {env : Env} {X Z : List Addr} {μ : List (Addr × MSp)} {ρ : List (Str × Sp)} {h h' : Heap} {A : Around} {E : Value → Shared → Prop} {s : Shared}

theorem lk_here {β : Type} {x : Str} {S : β} {r : List (Str × β)} : List.lookup x ((x, S) :: r) = some S := by simp
theorem lk_skip {β : Type} {x y : Str} {S S' : β} {r : List (Str × β)} (n : (x == y) = false) (k : List.lookup x r = some S) : List.lookup x ((y, S') :: r) = some S := by rw [List.lookup_cons, n]; exact k

theorem ev_var {n x pos S Z0} (L : Loc env Z ρ h) (e : ρ.lookup x = some S) (k : ∀ a ∈ Z0, a ∈ Z) (d : (x == ("__debug__" : Str)) = false) : EV prog w n Z0 env h (.Name x pos) S := fun A s E r k' => by
  obtain ⟨m, v, hv, hs⟩ := L.vars x S e
  have fin : Keeps s s ∧ S (hid Z0 s.heap) v := ⟨keeps_refl s, m _ _ _ ((hid_sub_mono k').trans (hid_less k)) hs⟩
  refine wpAny_Name ?_ d
  cases hv.sub k' with
  | loc hl hn hm => exact wpAny_loadName_local L.kind hl hn hm fin
  | cell hl hc hv =>
    rcases hl with hl | ⟨hl, q⟩
    · exact wpAny_loadName_cell L.kind hl hc hv fin
    · exact wpAny_loadName_free L.kind hl hc hv fin q

/-- store a name -/
theorem st_nameX {x : Str} {v : Value} {S : Sp} {Q : Unit → Shared → Prop} (F : Fm H env X Z μ ρ s.heap) (mS : Mono S) (hS : S (hid Z s.heap) v)
    (hk : env.kindOf x = some .local ∨ (env.kindOf x = some .cell ∧ (env.cells.lookup x).isSome = true))
    (q : ∀ s', Like s s' → Fm H env X Z μ ((x, S) :: ρ) s'.heap → (∀ b o, b ∉ X → s.heap.get? b = some o → s'.heap.get? b = some o) → Q () s') : wpAny (model prog w) A (storeName env x v) Q E s := by
  rcases hk with hk | ⟨hk, hc⟩
  · obtain ⟨m, n⟩ := F.ns
    refine wpAny_storeName_local hk n (fun h' n' k => q _ ⟨h', _, rfl⟩ ?_ fun b o hb e => k.extBut b o (fun q => hb (q ▸ F.L)) e) (by rw [F.kind]; rfl)
    exact F.put mS hS k (.loc hk n' (by simp)) (by rw [hk]; intro c; cases c) (.inl ⟨rfl, hk, m, n, n'⟩)
  · obtain ⟨c, hc⟩ := Option.isSome_iff_exists.mp hc
    obtain ⟨⟨v0, y⟩, hcX⟩ := F.cells x c hk hc
    refine wpAny_storeName_cell F.kind hk hc y fun h' y' k => q _ ⟨h', s.toks, rfl⟩ ?_ fun b o hb e => k.extBut b o (fun q => hb (q ▸ hcX)) e
    exact F.put mS hS k (.cell (.inl hk) hc y') (by rw [hk]; intro c; cases c) (.inr ⟨hk, hc, y'⟩)
theorem st_name {x : Str} {v : Value} {S : Sp} {Q : Unit → Shared → Prop} (F : Fm H env X Z μ ρ s.heap) (mS : Mono S) (hS : S (hid Z s.heap) v)
    (hk : env.kindOf x = some .local ∨ (env.kindOf x = some .cell ∧ (env.cells.lookup x).isSome = true))
    (q : ∀ s', Like s s' → Fm H env X Z μ ((x, S) :: ρ) s'.heap → Q () s') : wpAny (model prog w) A (storeName env x v) Q E s :=
  st_nameX F mS hS hk fun s' l F' _ => q s' l F'

/-- x = e -/
theorem bl_assign {n x px e pos S rest Q} (F : Fm H env X Z μ ρ s.heap) (rm : Rm n A) (ev : EV prog w n Z env s.heap e S) (mS : Mono S)
    (hk : env.kindOf x = some .local ∨ (env.kindOf x = some .cell ∧ (env.cells.lookup x).isSome = true))
    (sw : swapsWith e (some (.Name x px)) pos.line env = pure false)
    (q : ∀ s', Like s s' → Fm H env X Z μ ((x, S) :: ρ) s'.heap → wpAny (model prog w) A (execs rest env) Q E s') :
    wpAny (model prog w) A (execs (.Assign [.Name x px] e pos :: rest) env) Q E s := by
  refine wpAny_execs_cons (wpAny_Assign_Name (wpAny_mono (ev A s E rm (Sub.refl _)) (fun v s1 ⟨k1, h1⟩ => ?_) fun _ _ e => e) sw)
  exact st_name (F.keep (ksub k1)) mS h1 hk fun s' l F' => q s' ((klike k1).trans l) F'

theorem bl_return {n e pos S rest Q} (rm : Rm n A) (ev : EV prog w n Z env s.heap e S) (q : ∀ v s', Keeps s s' → S (hid Z s'.heap) v → Q (.ret v) s') :
    wpAny (model prog w) A (execs (.Return (some e) pos :: rest) env) Q E s :=
  wpAny_execs_cons (wpAny_Return_some (wpAny_mono (ev A s E rm (Sub.refl _)) (fun v s1 ⟨k1, h1⟩ => q v s1 k1 h1) fun _ _ e => e))
end
end Mine
end
section
open PySem PySem.W PyProof.Rows
set_option Elab.async false
set_option maxRecDepth 100000
set_option linter.unusedVariables false
namespace Mine
section
variable {prog : Program} {w : World}

/-- what S says can be walked: the items xs, each as R says -/
noncomputable def Itr (prog : Program) (w : World) {α : Type} (R : α → Sp) (xs : List α) (S : Sp) : Prop :=
  ∀ A (s : Shared) v Z Q E, A.handled = none → S (hid Z s.heap) v →
    (∀ I fp P St s', Keeps s s' → s.heap.objs.size ≤ I → (∀ b ∈ fp, b < s'.heap.objs.size ∧ (b = I ∨ b < s.heap.objs.size ∧ b ∉ Z)) → Walks prog w A I fp [I] xs.length P St → St 0 s'.heap →
      (∀ i u, P i u → ∃ x, xs[i]? = some x ∧ R x (hid Z s.heap) u) →
      (∀ A' i i' u tg Q' E' (s'' : Shared), P i u → St i' s''.heap → Q' () s'' → wpAny (model prog w) A' (letOwnedTupleGo tg (.ref I) u) Q' E' s'') → (∀ i h, St i h → ∃ o, h.get? I = some o) → Q (.ref I) s') → wpAny (model prog w) A (pyIter v) Q E s
theorem lo_listiter {A : Around} {I l : Addr} {i : Nat} {u : Value} {tg : Expr} {Q : Unit → Shared → Prop} {E : Value → Shared → Prop} {s : Shared} (hit : s.heap.IsListIter I l i) (q : Q () s) : wpAny (model prog w) A (letOwnedTupleGo tg (.ref I) u) Q E s := by
  obtain ⟨o, ho, hc, hd⟩ := hit
  unfold letOwnedTupleGo
  split
  all_goals first
    | (split
       · rename_i e
         cases e
         refine wpAny_bind (wpAny_load ho ?_)
         rw [hc, hd]
         exact wpAny_pure q
       · exact wpAny_pure q)
    | exact wpAny_pure q

theorem paired_get {α β : Type} {F : α → β → Prop} : ∀ {l : List α} {m : List β}, Paired F l m → ∀ {i : Nat} {b : β}, m[i]? = some b → ∃ a, l[i]? = some a ∧ F a b
  | _, _, .nil, i, b, e => by simp at e
  | _, _, .cons (a := a) x t, 0, b, e => by simp at e; subst e; exact ⟨a, rfl, x⟩
  | _, _, .cons x t, i + 1, b, e => by simp at e; exact paired_get t e
theorem paired_get' {α β : Type} {F : α → β → Prop} : ∀ {l : List α} {m : List β}, Paired F l m → ∀ {i : Nat} {a : α}, l[i]? = some a → ∃ b, m[i]? = some b ∧ F a b
  | _, _, .nil, i, b, e => by simp at e
  | _, _, .cons (b := a) x t, 0, b, e => by simp at e; subst e; exact ⟨a, rfl, x⟩
  | _, _, .cons x t, i + 1, b, e => by simp at e; exact paired_get' t e

theorem itr_list {α : Type} {R : α → Sp} {xs : List α} : Itr prog w R xs (Ls R xs) := fun A s v Z Q E hh ⟨a, vs, e, pl, pr⟩ q => by
  subst e
  have al : s.heap.PlainList a vs := plainList_sub (hid_sub Z _) pl
  have ha : a < s.heap.objs.size := let ⟨_, e⟩ := al; Heap.lt_size e
  have hz : a ∉ Z := fun m => by obtain ⟨_, e⟩ := pl; rw [hid_none m] at e; cases e
  refine wpAny_pyIter_list al.isList ?_
  refine q s.heap.objs.size [s.heap.objs.size, a] (fun i v => vs[i]? = some v) (fun i h => h.IsListIter s.heap.objs.size a i ∧ h.IsList a vs) _ ⟨_, s.toks, rfl, fun b o e => Heap.get?_push_of_some _ e⟩ (Nat.le_refl _) ?_ ?_ ?_ ?_ ?_ ?_
  · intro b hb
    simp only [List.mem_cons, List.not_mem_nil, or_false] at hb
    rcases hb with rfl | rfl
    · exact ⟨by rw [Heap.size_push]; exact Nat.lt_succ_self _, .inl rfl⟩
    · exact ⟨by rw [Heap.size_push]; exact Nat.lt_succ_of_lt ha, .inr ⟨ha, hz⟩⟩
  · have := Walks.list (prog := prog) (w := w) hh s.heap.objs.size a (Nat.ne_of_lt ha) vs
    have e : vs.size = xs.length := by have := pr.length; simp at this; lia
    rw [e] at this; exact this
  · exact ⟨⟨_, Heap.get?_push_size _ rfl, rfl, rfl⟩, al.isList.push _⟩
  · intro i u hu
    exact paired_get pr (by simpa using hu)
  · intro A' i i' u tg Q' E' s'' _ st q'
    exact lo_listiter st.1 q'
  · intro i h st
    obtain ⟨⟨o, e, _⟩, _⟩ := st
    exact ⟨o, e⟩

/-- range objects -/
noncomputable def Rg (a c : Int) (n : Nat) : Sp := fun h v => ∃ r b t u x, v = .ref r ∧ IsRange h r a b c t u x ∧ Builtin.Range.rangeSize a b c = n ∧ Builtin.Range.small a b c = true
noncomputable def rgList (a c : Int) (n : Nat) : List Int := (List.range n).map fun (i : Nat) => a + (i : Int) * c
theorem mono_Rg (a c n) : Mono (Rg a c n) := fun h h' v k ⟨r, b, t, u, x, e, y, z⟩ => ⟨r, b, t, u, x, e, k _ _ y, z⟩
theorem itr_range {a c : Int} {n : Nat} : Itr prog w I (rgList a c n) (Rg a c n) := fun A s v Z Q E hh ⟨r, b, t, u, x, e, y, z, sm⟩ q => by
  subst e
  refine wpAny_pyIter_range (hid_sub Z _ _ _ y) sm ?_
  refine q s.heap.objs.size [s.heap.objs.size] (fun (i : Nat) v => i < n ∧ ∃ t, v = .int (a + (i : Int) * c) t) (fun i h => IsRangeIter h s.heap.objs.size (a + (i : Nat) * c) ((n : Int) - (i : Nat)) c) _ ⟨_, s.toks, rfl, fun b o e => Heap.get?_push_of_some _ e⟩ (Nat.le_refl _) ?_ ?_ ?_ ?_ ?_ ?_
  · intro b hb
    simp only [List.mem_cons, List.not_mem_nil, or_false] at hb
    subst hb
    exact ⟨by rw [Heap.size_push]; exact Nat.lt_succ_self _, .inl rfl⟩
  · have W := Walks.range (prog := prog) (w := w) hh s.heap.objs.size a c n
    have e : (rgList a c n).length = n := by simp [rgList]
    rw [e]
    exact ⟨W.sub, W.frame, fun i s Q E hi st hQ => W.item i s Q E hi st fun v h' tk hp => hQ v h' tk ⟨hi, hp⟩, W.done, W.self⟩
  · have e1 : (a + ((0 : Nat) : Int) * c) = a := by simp
    have e2 : ((n : Int) - ((0 : Nat) : Int)) = Builtin.Range.rangeSize a b c := by rw [z]; simp
    show IsRangeIter _ _ _ _ _
    rw [e1, e2]
    exact Heap.get?_push_size _ rfl
  · rintro i u ⟨hi, t, rfl⟩
    exact ⟨a + i * c, by simp [rgList, hi], t, rfl⟩
  · rintro A' i i' u tg Q' E' s'' ⟨_, t, rfl⟩ _ q'
    unfold letOwnedTupleGo
    split <;> exact wpAny_pure q'
  · intro i h st
    exact ⟨_, st⟩

/-! ## comprehensions -/
noncomputable def clFold (cells : List (Str × Addr)) : List (Str × NameKind) → List (Str × Addr) → List (Str × Addr)
  | [], acc => acc
  | (n, k) :: r, acc => if k == .free then clFold cells r ((n, (cells.lookup n).getD 0) :: acc) else clFold cells r acc
theorem closure_go {env : Env} : ∀ (names : List (Str × NameKind)) (acc : List (Str × Addr)), (∀ x ∈ names, x.2 = .free → (env.cells.lookup x.1).isSome = true) →
    (forIn names acc fun x cs => do
      let cs := cs
      if (x.2 == .free) = true then do let a ← cellOf env x.1; pure (ForInStep.yield ((x.1, a) :: cs)) else pure (ForInStep.yield cs) : Sem (List (Str × Addr))) = pure (clFold env.cells names acc)
  | [], acc, _ => rfl
  | (n, k) :: r, acc, hk => by
    rw [List.forIn_cons]
    have ih := fun acc => closure_go r acc fun x m => hk x (.tail _ m)
    by_cases hf : (k == NameKind.free) = true
    · obtain ⟨c, hc⟩ := Option.isSome_iff_exists.mp (hk (n, k) (.head _) (by simpa using hf))
      simp only [hf, if_true, cellOf, hc, clFold, Option.getD_some, pure_bind]
      exact ih _
    · have hf' : (k == NameKind.free) = false := by simpa using hf
      simp only [hf', Bool.false_eq_true, if_false, clFold, pure_bind]
      exact ih _
theorem closureFor_is {scope : Scope} {env : Env} (hk : ∀ x ∈ scope.names, x.2 = .free → (env.cells.lookup x.1).isSome = true) : closureFor scope env = pure (clFold env.cells scope.names []) := by
  have e := closure_go (env := env) scope.names [] hk
  have q : closureFor scope env = (forIn scope.names ([] : List (Str × Addr)) fun x cs => do
      let cs := cs
      if (x.2 == .free) = true then do let a ← cellOf env x.1; pure (ForInStep.yield ((x.1, a) :: cs)) else pure (ForInStep.yield cs) : Sem (List (Str × Addr))) >>= pure := rfl
  rw [q, e, pure_bind]

noncomputable def testsT (ifs : List Expr) (cenv : Env) : Sem Bool := forIn ifs true fun c r => if r = true then do let ok ← isTrue c cenv (eval c cenv); pure (ForInStep.yield ok) else pure (ForInStep.yield r)

end
end Mine
end
section
open PySem PySem.W PyProof.Rows
set_option Elab.async false
set_option maxRecDepth 100000
set_option linter.unusedVariables false
namespace Mine
section
variable {prog : Program} {w : World}

noncomputable def EVb (prog : Program) (w : World) (n : Nat) (env : Env) (h : Heap) (c : Expr) (b : Bool) : Prop :=
  ∀ A s E, Rm n A → Sub h s.heap → wpAny (model prog w) A (isTrue c env (eval c env)) (fun r s' => r = b ∧ Keeps s s') E s
/-- the tests of a comprehension -/
noncomputable def EVts (prog : Program) (w : World) (n : Nat) (env : Env) (h : Heap) (ifs : List Expr) (b : Bool) : Prop :=
  ∀ A s E, Rm n A → Sub h s.heap → wpAny (model prog w) A (testsT ifs env) (fun r s' => r = b ∧ Keeps s s') E s
theorem evts_nil {n env h} : EVts prog w n env h [] true := fun A s E _ _ => wpAny_pure ⟨rfl, keeps_refl s⟩
/-- what a comprehension's block takes from outside -/
inductive Cap (env : Env) (scope : Scope) (ρ : List (Str × Sp)) : List (Str × Sp) → Prop
  | nil : Cap env scope ρ []
  | cons {y : Str} {S : Sp} {r} (e : ρ.lookup y = some S) (f : scope.names.lookup y = some .free) (k : env.kindOf y = some .cell ∨ (env.kindOf y = some .free ∧ (y == ("__classdict__" : Str)) = false)) (t : Cap env scope ρ r) : Cap env scope ρ ((y, S) :: r)
theorem Cap.get {env : Env} {scope : Scope} {ρ : List (Str × Sp)} : ∀ {r} (_ : Cap env scope ρ r) {y S}, r.lookup y = some S →
    ρ.lookup y = some S ∧ scope.names.lookup y = some .free ∧ (env.kindOf y = some .cell ∨ (env.kindOf y = some .free ∧ (y == ("__classdict__" : Str)) = false))
  | _, .nil, y, S, e => by simp at e
  | _, .cons (y := z) e f k t, y, S, q => by
    rw [List.lookup_cons] at q
    cases hb : y == z with
    | true => rw [hb] at q; cases q; rw [beq_iff_eq.mp hb]; exact ⟨e, f, k⟩
    | false => rw [hb] at q; exact t.get q

theorem clFold_look {cells : List (Str × Addr)} {y : Str} : ∀ (names : List (Str × NameKind)) (acc : List (Str × Addr)),
    (∀ c, acc.lookup y = some c → cells.lookup y = some c) → (∀ x ∈ names, x.2 = .free → (cells.lookup x.1).isSome = true) → (names.lookup y = some .free ∨ (acc.lookup y).isSome = true) →
    (clFold cells names acc).lookup y = cells.lookup y
  | [], acc, ha, _, ho => by
    rcases ho with ho | ho
    · simp at ho
    · obtain ⟨c, hc⟩ := Option.isSome_iff_exists.mp ho
      show acc.lookup y = _
      rw [hc, ha c hc]
  | (n, k) :: r, acc, ha, hs, ho => by
    unfold clFold
    by_cases hk : (k == NameKind.free) = true
    · rw [if_pos hk]
      have hk' : k = .free := by simpa using hk
      have hn := hs (n, k) (.head _) hk'
      refine clFold_look r _ (fun c hc => ?_) (fun x m => hs x (.tail _ m)) ?_
      · rw [List.lookup_cons] at hc
        cases hy : y == n with
        | true =>
          rw [hy] at hc
          obtain ⟨c', hc'⟩ := Option.isSome_iff_exists.mp hn
          dsimp only at hc'
          rw [hc'] at hc; cases hc
          rw [beq_iff_eq.mp hy]; exact hc'
        | false => rw [hy] at hc; exact ha c hc
      · by_cases hy : (y == n) = true
        · exact .inr (by rw [List.lookup_cons, hy]; rfl)
        · have hy' : (y == n) = false := by simpa using hy
          rcases ho with ho | ho
          · rw [List.lookup_cons, hy'] at ho; exact .inl ho
          · exact .inr (by rw [List.lookup_cons, hy']; exact ho)
    · rw [if_neg hk]
      have hk' : k ≠ .free := by simpa using hk
      refine clFold_look r acc ha (fun x m => hs x (.tail _ m)) ?_
      rcases ho with ho | ho
      · rw [List.lookup_cons] at ho
        cases hy : y == n with
        | true => rw [hy] at ho; cases ho; exact absurd rfl hk'
        | false => rw [hy] at ho; exact .inl ho
      · exact .inr ho
theorem relabel_free {env : Env} : ∀ {names : List (Str × NameKind)} {x : Str}, names.lookup x = some .free →
    (names.map fun (n, k) => if (k == NameKind.free && env.scope.kind == .function && env.kindOf n == some .cell) then (n, NameKind.cell) else (n, k)).lookup x =
      some (if env.scope.kind == .function && env.kindOf x == some .cell then .cell else .free)
  | [], _, h => by simp at h
  | (n, k) :: r, x, h => by
    have ih := @relabel_free env r x
    show List.lookup x ((if (k == NameKind.free && env.scope.kind == .function && env.kindOf n == some .cell) = true then (n, NameKind.cell) else (n, k)) :: _) = _
    cases hx : x == n with
    | true =>
      simp only [List.lookup_cons, hx] at h
      cases h
      rw [← beq_iff_eq.mp hx]
      by_cases hc : (env.scope.kind == ScopeKind.function && env.kindOf x == some NameKind.cell) = true <;> simp [hc, List.lookup_cons]
    | false =>
      simp only [List.lookup_cons, hx] at h
      by_cases hc : (k == .free && env.scope.kind == .function && env.kindOf n == some .cell) = true
      · rw [if_pos hc]; simp only [List.lookup_cons, hx]; exact ih h
      · rw [if_neg hc]; simp only [List.lookup_cons, hx]; exact ih h

structure ScOk (scope : Scope) (env : Env) (x : Str) : Prop where
  free : ∀ y ∈ scope.names, y.2 = .free → (env.cells.lookup y.1).isSome = true
  cell : ∀ y ∈ scope.names, y.2 ≠ .cell
  kind : scope.kind = .function
  names : ∀ y ∈ scope.names, y.2 = .local → scope.names.lookup y.1 = some .local
  x : scope.names.lookup x = some .local

section
variable {α β : Type} {R : α → Sp} {R' : β → Sp} {xs : List α} {p : α → Bool} {f : α → β} {env : Env} {elt iter : Expr} {x : Str} {px : Pos} {ifs : List Expr} {scope : Scope} {pos : Pos} {n : Nat} {Z Zr : List Addr} {h : Heap} {ρ ρc : List (Str × Sp)} {S : Sp}

end
end
end Mine
end
section
open PySem PySem.W PyProof.Rows
set_option Elab.async false
set_option maxRecDepth 100000
set_option linter.unusedVariables false
namespace Mine
section
variable {H H' : Heap} {env : Env} {X X' Z Z' : List Addr} {μ : List (Addr × MSp)} {ρ : List (Str × Sp)} {h h' : Heap}

/-- more is kept: a base that none of X is in -/
theorem Fm.base (F : Fm H env X Z μ ρ h) : Fm (hid X h) env X Z μ ρ h := { F with sub := hid_sub X h, zz := fun z m => hid_none m }
theorem Fm.base_sub (F : Fm H env X Z μ ρ h) : Sub H (hid X h) := fun b o e => hid_get (F.sub b o e) fun m => by rw [F.zz b m] at e; cases e
theorem Fm.rebase (F : Fm H env X Z μ ρ h) (k : Sub H' H) : Fm H' env X Z μ ρ h := { F with sub := k.trans F.sub, zz := fun z m => (by
  cases e : H'.get? z with
  | none => rfl
  | some o => have := k _ _ e; rw [F.zz z m] at this; cases this) }

/-- a new address is hidden -/
theorem Fm.hide1 (F : Fm H env X Z μ ρ h) (k : Sub h h') {a : Addr} (ha : h.get? a = none) (ha' : ∃ o, h'.get? a = some o) : Fm H env (a :: X) (a :: Z) μ ρ h' := by
  have kz : Sub (hid Z h) (hid (a :: Z) h') := fun b o e => by
    have e1 := hid_sub Z h b o e
    refine hid_get (k _ _ e1) fun hm => ?_
    rcases List.mem_cons.mp hm with q | q
    · rw [q, ha] at e1; cases e1
    · rw [hid_none q] at e; cases e
  exact {
    kind := F.kind
    sub := F.sub.trans k
    zz := fun z m => by
      rcases List.mem_cons.mp m with q | q
      · cases e : H.get? z with
        | none => rfl
        | some o => have := F.sub _ _ e; rw [q, ha] at this; cases this
      · exact F.zz z q
    xz := fun z m => by
      rcases List.mem_cons.mp m with q | q
      · exact q ▸ List.mem_cons_self
      · exact .tail _ (F.xz z q)
    ns := let ⟨m, y⟩ := F.ns; ⟨m, y.keeps k⟩
    cells := fun x c e e' => let ⟨⟨v, y⟩, z⟩ := F.cells x c e e'; ⟨⟨v, y.keeps k⟩, .tail _ z⟩
    apart := F.apart
    alive := fun x c e => let ⟨o, y⟩ := F.alive x c e; ⟨o, k _ _ y⟩
    L := .tail _ F.L
    vars := fun x S e => let ⟨m, f, v, a, b⟩ := F.vars x S e; ⟨m, f, v, a.sub k, m _ _ _ kz b⟩
    own := fun p hp => let ⟨a, b, c, d, o, e, f⟩ := F.own p hp; ⟨.tail _ a, b, c, d, o, k _ _ e, b _ _ _ kz f⟩
    nodup := F.nodup
    live := fun z m => by
      rcases List.mem_cons.mp m with q | q
      · exact q ▸ ha'
      · obtain ⟨o, e⟩ := F.live z q; exact ⟨o, k _ _ e⟩ }

structure Apart (env : Env) (a : Addr) : Prop where
  L : a ≠ env.locals
  cells : ∀ x, env.cells.lookup x ≠ some a

theorem Fm.drop1 {a : Addr} (F : Fm H env (a :: X) (a :: Z) μ ρ h) (hA : Apart env a) (hm : a ∉ μ.map (·.1)) (hx : ∀ z ∈ X, z ∈ Z) : Fm H env X Z μ ρ h := by
  have kz : Sub (hid (a :: Z) h) (hid Z h) := hid_less fun b m => .tail _ m
  exact { F with
    zz := fun z m => F.zz z (.tail _ m)
    xz := hx
    live := fun z m => F.live z (.tail _ m)
    cells := fun x c e e' => let ⟨y, z⟩ := F.cells x c e e'; ⟨y, (List.mem_cons.mp z).resolve_left fun q => hA.cells x (q ▸ e')⟩
    L := (List.mem_cons.mp F.L).resolve_left fun q => hA.L q.symm
    vars := fun x S e => let ⟨m, f, v, a, b⟩ := F.vars x S e; ⟨m, f, v, a, m _ _ _ kz b⟩
    own := fun p hp => let ⟨a, b, c, d, o, e, f⟩ := F.own p hp; ⟨(List.mem_cons.mp a).resolve_left fun q => hm (q ▸ List.mem_map_of_mem hp), b, c, d, o, e, b _ _ _ kz f⟩ }

/-- a hidden thing that nobody names turns -/
theorem Fm.other (F : Fm H env X Z μ ρ h) {z : Addr} (m : z ∈ X) (hA : Apart env z) (hm : z ∉ μ.map (·.1)) (k : ∀ b o, b ≠ z → h.get? b = some o → h'.get? b = some o) (hz : ∃ o, h'.get? z = some o) : Fm H env X Z μ ρ h' := by
  have kz : Sub (hid Z h) (hid Z h') := hid_mono fun b o n e => k b o (fun q => n (q ▸ F.xz z m)) e
  exact {
    kind := F.kind
    sub := fun b o e => k b o (fun q => by rw [q, F.zz z m] at e; cases e) (F.sub b o e)
    zz := F.zz
    xz := F.xz
    ns := let ⟨m, y⟩ := F.ns; ⟨m, y.at' fun o e => k _ o (Ne.symm hA.L) e⟩
    cells := fun x c e e' => let ⟨⟨v, o, y, d⟩, z⟩ := F.cells x c e e'; ⟨⟨v, o, k _ o (fun q => hA.cells x (q ▸ e')) y, d⟩, z⟩
    apart := F.apart
    alive := fun x c e => let ⟨o, y⟩ := F.alive x c e; ⟨o, k _ _ (fun q => hA.cells x (q ▸ e)) y⟩
    L := F.L
    vars := fun x S e => let ⟨m, f, v, a, b⟩ := F.vars x S e; ⟨m, f, v, (by
      cases a with
      | loc hl hn hm => exact .loc hl (hn.at' fun o e => k _ o (Ne.symm hA.L) e) hm
      | cell hl hc hv => exact .cell hl hc (let ⟨o, y, d⟩ := hv; ⟨o, k _ o (fun q => hA.cells x (q ▸ hc)) y, d⟩)), m _ _ _ kz b⟩
    own := fun p hp => let ⟨a, b, c, d, o, e, f⟩ := F.own p hp; ⟨a, b, c, d, o, k _ _ (fun q => hm (q ▸ List.mem_map_of_mem hp)) e, b _ _ _ kz f⟩
    nodup := F.nodup
    live := fun y m => by
      by_cases q : y = z
      · subst q; exact hz
      · obtain ⟨o, e⟩ := F.live y m; exact ⟨o, k _ _ q e⟩ }


/-- a hidden thing that nobody names turns, and is forgotten -/
theorem Fm.other_drop {z : Addr} (F : Fm H env (z :: X) (z :: Z) μ ρ h) (hA : Apart env z) (hm : z ∉ μ.map (·.1)) (hx : ∀ y ∈ X, y ∈ Z) (hnz : z ∉ Z) (k : ∀ b o, b ≠ z → h.get? b = some o → h'.get? b = some o) : Fm H env X Z μ ρ h' := by
  have kz : Sub (hid (z :: Z) h) (hid Z h') := fun b o e => by
    have hb : b ∉ z :: Z := fun q => by rw [hid_none q] at e; cases e
    exact hid_get (k b o (fun q => hb (q ▸ List.mem_cons_self)) (hid_sub _ _ _ _ e)) fun q => hb (.tail _ q)
  exact {
    kind := F.kind
    sub := fun b o e => k b o (fun q => by rw [q, F.zz z (.head _)] at e; cases e) (F.sub b o e)
    zz := fun y m => F.zz y (.tail _ m)
    xz := hx
    ns := let ⟨m, y⟩ := F.ns; ⟨m, y.at' fun o e => k _ o (Ne.symm hA.L) e⟩
    cells := fun x c e e' => let ⟨⟨v, o, y, d⟩, q⟩ := F.cells x c e e'; ⟨⟨v, o, k _ o (fun q => hA.cells x (q ▸ e')) y, d⟩, (List.mem_cons.mp q).resolve_left fun q => hA.cells x (q ▸ e')⟩
    apart := F.apart
    alive := fun x c e => let ⟨o, y⟩ := F.alive x c e; ⟨o, k _ _ (fun q => hA.cells x (q ▸ e)) y⟩
    L := (List.mem_cons.mp F.L).resolve_left fun q => hA.L q.symm
    vars := fun x S e => let ⟨m, f, v, a, b⟩ := F.vars x S e; ⟨m, f, v, (by
      cases a with
      | loc hl hn hm => exact .loc hl (hn.at' fun o e => k _ o (Ne.symm hA.L) e) hm
      | cell hl hc hv => exact .cell hl hc (let ⟨o, y, d⟩ := hv; ⟨o, k _ o (fun q => hA.cells x (q ▸ hc)) y, d⟩)), m _ _ _ kz b⟩
    own := fun p hp => let ⟨a, b, c, d, o, e, f⟩ := F.own p hp; ⟨(List.mem_cons.mp a).resolve_left fun q => hm (q ▸ List.mem_map_of_mem hp), b, c, d, o, k _ _ (fun q => hm (q ▸ List.mem_map_of_mem hp)) e, b _ _ _ kz f⟩
    nodup := F.nodup
    live := fun y m => let ⟨o, e⟩ := F.live y (.tail _ m); ⟨o, k _ _ (fun q => hnz (q ▸ m)) e⟩ }

/-- a hidden thing is taken in hand -/
theorem Fm.take (F : Fm H env X Z μ ρ h) {z : Addr} {P : MSp} {o : Obj} (m : z ∈ X) (hA : Apart env z) (hm : z ∉ μ.map (·.1)) (mP : MonoM P) (e : h.get? z = some o) (hP : P (hid Z h) o) : Fm H env X Z ((z, P) :: μ) ρ h :=
  { F with
    own := fun p hp => by
      rcases List.mem_cons.mp hp with rfl | hp
      · exact ⟨m, mP, hA.L, hA.cells, o, e, hP⟩
      · exact F.own p hp
    nodup := by rw [List.map_cons]; exact List.nodup_cons.mpr ⟨hm, F.nodup⟩ }
theorem Fm.leave {p : Addr × MSp} (F : Fm H env X Z (p :: μ) ρ h) : Fm H env X Z μ ρ h :=
  { F with own := fun q hq => F.own q (.tail _ hq), nodup := (List.nodup_cons.mp (by simpa using F.nodup)).2 }
theorem Fm.head {z : Addr} {P : MSp} (F : Fm H env X Z ((z, P) :: μ) ρ h) : z ∈ X ∧ Apart env z ∧ z ∉ μ.map (·.1) ∧ ∃ o, h.get? z = some o ∧ P (hid Z h) o :=
  let ⟨a, b, c, d, o, e, f⟩ := F.own _ (.head _)
  ⟨a, ⟨c, d⟩, (List.nodup_cons.mp (by simpa using F.nodup)).1, o, e, f⟩
theorem Fm.fresh_apart (F : Fm H env X Z μ ρ h) {a : Addr} (ha : h.get? a = none) : Apart env a := by
  refine ⟨fun q => ?_, fun x e => ?_⟩
  · obtain ⟨m, o, _, _, e, _⟩ := F.ns
    rw [← q, ha] at e; cases e
  · obtain ⟨o, q⟩ := F.alive x a e
    rw [ha] at q; cases q
theorem Fm.fresh_own (F : Fm H env X Z μ ρ h) {a : Addr} (ha : h.get? a = none) : a ∉ μ.map (·.1) := fun q => by
  obtain ⟨p, hp, e⟩ := List.mem_map.mp q
  obtain ⟨_, _, _, _, o, e', _⟩ := F.own p hp
  rw [e, ha] at e'; cases e'
end
end Mine
end
section
open PySem PySem.W PyProof.Rows
set_option Elab.async false
set_option maxRecDepth 100000
set_option linter.unusedVariables false
namespace Mine
section
variable {prog : Program} {w : World} {H : Heap} {env : Env} {X Z : List Addr} {μ : List (Addr × MSp)} {ρ : List (Str × Sp)} {h h' : Heap} {A : Around} {E : Value → Shared → Prop} {s : Shared} {n : Nat}

theorem bl_nil {Q : Flow → Shared → Prop} (q : Q .next s) : wpAny (model prog w) A (execs [] env) Q E s := wpAny_execs_nil q

theorem bl_if {test : Expr} {body orelse rest : List Stmt} {pos : Pos} {b : Bool} {Q : Flow → Shared → Prop} (rm : Rm n A) (ev : EVb prog w n env s.heap test b)
    (q : ∀ s', Keeps s s' → wpAny (model prog w) A (execs (if b then body else orelse) env) (fun f s'' => match f with | .next => wpAny (model prog w) A (execs rest env) Q E s'' | f => Q f s'') E s') :
    wpAny (model prog w) A (execs (.If test body orelse pos :: rest) env) Q E s :=
  wpAny_execs_cons (wpAny_If (wpAny_mono (ev A s E rm (Sub.refl _)) (fun r s' ⟨e, k⟩ => by subst e; have := q s' k; cases r <;> exact this) fun _ _ e => e))

/-- an if that the facts decide: no -/
theorem bl_if_no {test : Expr} {body rest : List Stmt} {pos : Pos} {Q : Flow → Shared → Prop} (rm : Rm n A) (ev : EVb prog w n env s.heap test false)
    (q : ∀ s', Keeps s s' → wpAny (model prog w) A (execs rest env) Q E s') : wpAny (model prog w) A (execs (.If test body [] pos :: rest) env) Q E s :=
  bl_if rm ev fun s' k => wpAny_execs_nil (q s' k)

/-- the loop; K is what a turn keeps of the state -/
theorem bl_forK {K : Shared → Shared → Prop} (Kl : ∀ {a b}, Like a b → K a b) (Kt : ∀ {a b c}, K a b → K b c → K a c) {α : Type} {R : α → Sp} {xs : List α} {S : Sp} {μ : Nat → List (Addr × MSp)} {ρ : Nat → List (Str × Sp)} {ρt : Nat → α → List (Str × Sp)} {target iter : Expr} {body rest : List Stmt} {pos : Pos} {Q : Flow → Shared → Prop}
    (F : Fm H env X Z (μ 0) (ρ 0) s.heap) (rm : Rm n A) (ev : EV prog w n Z env s.heap iter S) (it : Itr prog w R xs S) (mR : ∀ a, Mono (R a)) (hs : ∀ x, foldedSetIterable iter env x = pure x) (hmu : ∀ i, (μ i).map (·.1) = (μ 0).map (·.1))
    (tgt : ∀ (i : Nat) a u I P H' s' E', xs[i]? = some a → R a (hid (I :: Z) s'.heap) u → Sub H H' → Fm H' env (I :: X) (I :: Z) ((I, P) :: μ i) (ρ i) s'.heap →
      wpAny (model prog w) A (assign target env u) (fun _ s'' => K s' s'' ∧ Fm H' env (I :: X) (I :: Z) ((I, P) :: μ i) (ρt i a) s''.heap) E' s')
    (turn : ∀ (i : Nat) a I P H' s' E', xs[i]? = some a → Sub H H' → K s s' → Fm H' env (I :: X) (I :: Z) ((I, P) :: μ i) (ρt i a) s'.heap →
      wpAny (model prog w) A (execs body env) (fun f s'' => (f = .next ∨ f = .cont) ∧ K s' s'' ∧ Fm H' env (I :: X) (I :: Z) ((I, P) :: μ (i + 1)) (ρ (i + 1)) s''.heap) E' s')
    (q : ∀ s', K s s' → Fm H env X Z (μ xs.length) (ρ xs.length) s'.heap → wpAny (model prog w) A (execs rest env) Q E s') :
    wpAny (model prog w) A (execs (.For target iter body [] pos :: rest) env) Q E s := by
  refine wpAny_execs_cons (wpAny_For (wpAny_mono (ev A s E rm (Sub.refl _)) (fun xv s₁ ⟨k₁, h₁⟩ => ?_) fun _ _ e => e) hs)
  refine it A s₁ xv Z _ E rm.hh h₁ fun I fp P St s₂ k₂ hI hfp W hst hP lo alv => ?_
  have hIn : s₁.heap.get? I = none := by
    cases e : s₁.heap.get? I with
    | none => rfl
    | some o => exact absurd (Heap.lt_size e) (Nat.not_lt.mpr hI)
  have F₁ := F.keep (ksub k₁)
  have F₂ : Fm H env (I :: X) (I :: Z) (μ 0) (ρ 0) s₂.heap := F₁.hide1 (ksub k₂) hIn (alv 0 _ hst)
  have apI : Apart env I := F₁.fresh_apart hIn
  have owI : ∀ i, I ∉ (μ i).map (·.1) := fun i => by rw [hmu i]; exact F₁.fresh_own hIn
  have hRup : ∀ {a u} {h' : Heap}, R a (hid Z s₁.heap) u → Sub (hid Z s₁.heap) (hid (I :: Z) h') → R a (hid (I :: Z) h') u := fun q k => mR _ _ _ _ k q
  -- the frozen part at the loop's start
  have fz : ∀ {b o}, (hid X s₁.heap).get? b = some o → b ∉ I :: X := fun {b o} e hm => by
    rcases List.mem_cons.mp hm with q | q
    · have := hid_sub X _ _ _ e; rw [q, hIn] at this; cases this
    · rw [hid_none q] at e; cases e
  have hz : ∀ h₃, Sub (hid X s₁.heap) (hid (I :: X) h₃) → Sub (hid Z s₁.heap) (hid (I :: Z) h₃) := fun h₃ k b o e => by
    have e1 := hid_sub Z _ _ _ e
    have nz : b ∉ Z := fun m => by rw [hid_none m] at e; cases e
    refine hid_get (hid_sub _ _ _ _ (k b o (hid_get e1 fun m => nz (F.xz _ m)))) fun hm => ?_
    rcases List.mem_cons.mp hm with q | q
    · rw [q, hIn] at e1; cases e1
    · exact nz q
  refine codeAny_forLoop_any (fun k s' => ∃ i, K s s' ∧ St i s'.heap ∧ Fm (hid X s₁.heap) env (I :: X) (I :: Z) (μ i) (ρ i) s'.heap ∧ i ≤ xs.length ∧ k = xs.length + 1 - i) ?_ (xs.length + 1)
    ⟨0, Kl ((klike k₁).trans (klike k₂)), hst, ?_, Nat.zero_le _, rfl⟩
  · rintro k s' ⟨i, l, hsti, Fi, hi, rfl⟩
    by_cases hlt : i < xs.length
    · refine W.item i s' _ _ hlt hsti fun v h₃ tk₃ hPv hst₃ hk₃ => ?_
      have kI : ∀ b o, b ≠ I → s'.heap.get? b = some o → h₃.get? b = some o := fun b o hb e => hk₃ b o (fun hm => hb (by simpa using hm)) e
      have F₃ : Fm (hid X s₁.heap) env (I :: X) (I :: Z) (μ i) (ρ i) h₃ := Fi.other (.head _) apI (owI i) kI (alv (i + 1) h₃ hst₃)
      obtain ⟨a, ha, hR⟩ := hP i v hPv
      refine lo A i (i + 1) v target _ _ _ hPv hst₃ ?_
      obtain ⟨oI, hoI⟩ := alv (i + 1) h₃ hst₃
      have F₄ : Fm (hid (I :: X) h₃) env (I :: X) (I :: Z) ((I, fun _ o => o = oI) :: μ i) (ρ i) h₃ := F₃.base.take (.head _) apI (owI i) (fun _ _ _ _ x => x) hoI rfl
      have sb : Sub (hid X s₁.heap) (hid (I :: X) h₃) := F₃.base_sub
      have sH : Sub H (hid (I :: X) h₃) := F₁.base_sub.trans sb
      refine wpAny_mono (tgt i a v I _ _ { s' with heap := h₃, toks := tk₃ } _ ha (hRup hR (hz h₃ sb)) sH F₄) (fun _ s₄ ⟨l₄, G₄⟩ => ?_) fun _ _ e => e
      refine wpAny_mono (turn i a I _ _ s₄ _ ha sH (Kt (Kt l (Kl ⟨h₃, tk₃, rfl⟩)) l₄) G₄) (fun f s₅ ⟨hf, l₅, G₅⟩ => ?_) fun _ _ e => e
      have fin : ∃ m, m < xs.length + 1 - i ∧ ∃ i, K s s₅ ∧ St i s₅.heap ∧ Fm (hid X s₁.heap) env (I :: X) (I :: Z) (μ i) (ρ i) s₅.heap ∧ i ≤ xs.length ∧ m = xs.length + 1 - i := by
        refine ⟨xs.length + 1 - (i + 1), by lia, i + 1, Kt (Kt l (Kl ⟨h₃, tk₃, rfl⟩)) (Kt l₄ l₅), ?_, G₅.leave.rebase sb, hlt, rfl⟩
        refine W.frame _ _ _ hst₃ fun b hb o e => ?_
        by_cases hbI : b = I
        · subst hbI
          rw [hoI] at e; cases e
          obtain ⟨_, _, _, o', e', r⟩ := G₅.head
          rw [e', r]
        · rcases (hfp b hb).2 with q | ⟨q1, q2⟩
          · exact absurd q hbI
          · exact G₅.sub b o (hid_get e fun hm => by rcases List.mem_cons.mp hm with q | q; exact hbI q; exact q2 (F.xz _ q))
      rcases hf with rfl | rfl <;> exact fin
    · have hin : i = xs.length := by lia
      subst hin
      refine W.done s' _ _ hsti fun h₃ tk₃ hk₃ => wpAny_execs_nil ?_
      have kI : ∀ b o, b ≠ I → s'.heap.get? b = some o → h₃.get? b = some o := fun b o hb e => hk₃ b o (fun hm => hb (by simpa using hm)) e
      exact q _ (Kt l (Kl ⟨h₃, tk₃, rfl⟩)) ((Fi.other_drop apI (owI _) F.xz (fun m => by obtain ⟨o, e⟩ := F₁.live I m; rw [hIn] at e; cases e) kI).rebase F₁.base_sub)
  · exact { F₂.base with sub := fun b o e => ksub k₂ _ _ (hid_sub X _ _ _ e), zz := fun z hz => (by
      cases e : (hid X s₁.heap).get? z with
      | none => rfl
      | some o => exact absurd hz (fz e)) }
theorem bl_for {α : Type} {R : α → Sp} {xs : List α} {S : Sp} {μ : Nat → List (Addr × MSp)} {ρ : Nat → List (Str × Sp)} {ρt : Nat → α → List (Str × Sp)} {target iter : Expr} {body rest : List Stmt} {pos : Pos} {Q : Flow → Shared → Prop}
    (F : Fm H env X Z (μ 0) (ρ 0) s.heap) (rm : Rm n A) (ev : EV prog w n Z env s.heap iter S) (it : Itr prog w R xs S) (mR : ∀ a, Mono (R a)) (hs : ∀ x, foldedSetIterable iter env x = pure x) (hmu : ∀ i, (μ i).map (·.1) = (μ 0).map (·.1))
    (tgt : ∀ (i : Nat) a u I P H' s' E', xs[i]? = some a → R a (hid (I :: Z) s'.heap) u → Sub H H' → Fm H' env (I :: X) (I :: Z) ((I, P) :: μ i) (ρ i) s'.heap →
      wpAny (model prog w) A (assign target env u) (fun _ s'' => Like s' s'' ∧ Fm H' env (I :: X) (I :: Z) ((I, P) :: μ i) (ρt i a) s''.heap) E' s')
    (turn : ∀ (i : Nat) a I P H' s' E', xs[i]? = some a → Sub H H' → Like s s' → Fm H' env (I :: X) (I :: Z) ((I, P) :: μ i) (ρt i a) s'.heap →
      wpAny (model prog w) A (execs body env) (fun f s'' => (f = .next ∨ f = .cont) ∧ Like s' s'' ∧ Fm H' env (I :: X) (I :: Z) ((I, P) :: μ (i + 1)) (ρ (i + 1)) s''.heap) E' s')
    (q : ∀ s', Like s s' → Fm H env X Z (μ xs.length) (ρ xs.length) s'.heap → wpAny (model prog w) A (execs rest env) Q E s') :
    wpAny (model prog w) A (execs (.For target iter body [] pos :: rest) env) Q E s :=
  bl_forK (fun l => l) Like.trans F rm ev it mR hs hmu tgt turn q
end
end Mine
end
section
open PySem PySem.W PyProof.Rows
set_option Elab.async false
set_option maxRecDepth 100000
set_option linter.unusedVariables false
namespace Mine
section
variable {prog : Program} {w : World} {H : Heap} {env : Env} {X Z Z0 : List Addr} {μ : List (Addr × MSp)} {ρ : List (Str × Sp)} {h h' : Heap} {A : Around} {E : Value → Shared → Prop} {s : Shared} {n : Nat}

noncomputable abbrev Stores (env : Env) (x : Str) : Prop := env.kindOf x = some .local ∨ (env.kindOf x = some .cell ∧ (env.cells.lookup x).isSome = true)

theorem tgt_name {x : Str} {px : Pos} {S : Sp} {u : Value} {Q : Unit → Shared → Prop} (F : Fm H env X Z μ ρ s.heap) (mS : Mono S) (hS : S (hid Z s.heap) u) (hk : Stores env x)
    (q : ∀ s', Like s s' → Fm H env X Z μ ((x, S) :: ρ) s'.heap → Q () s') : wpAny (model prog w) A (assign (.Name x px) env u) Q E s :=
  wpAny_assign_Name (st_name F mS hS hk q)

theorem bl_while {test : Expr} {body rest : List Stmt} {pos : Pos} {Q : Flow → Shared → Prop} {μ : Nat → List (Addr × MSp)} {ρ : Nat → List (Str × Sp)} (N : Nat)
    (F : Fm H env X Z (μ 0) (ρ 0) s.heap) (rm : Rm n A)
    (tst : ∀ i s', Like s s' → Fm H env X Z (μ i) (ρ i) s'.heap → i ≤ N → EVb prog w n env s'.heap test (decide (i < N)))
    (turn : ∀ i s' E', i < N → Like s s' → Fm H env X Z (μ i) (ρ i) s'.heap →
      wpAny (model prog w) A (execs body env) (fun f s'' => (f = .next ∨ f = .cont) ∧ Like s' s'' ∧ Fm H env X Z (μ (i + 1)) (ρ (i + 1)) s''.heap) E' s')
    (q : ∀ s', Like s s' → Fm H env X Z (μ N) (ρ N) s'.heap → wpAny (model prog w) A (execs rest env) Q E s') :
    wpAny (model prog w) A (execs (.While test body [] pos :: rest) env) Q E s := by
  refine wpAny_execs_cons (wpAny_While (codeAny_whileLoop (fun k s' => ∃ i, Like s s' ∧ Fm H env X Z (μ i) (ρ i) s'.heap ∧ i ≤ N ∧ k = N + 1 - i) ?_ (N + 1) ⟨0, Like.refl s, F, Nat.zero_le _, rfl⟩))
  rintro k s' ⟨i, l, Fi, hi, rfl⟩
  refine wpAny_mono (tst i s' l Fi hi A s' _ rm (Sub.refl _)) (fun b s₁ ⟨e, k₁⟩ => ?_) fun _ _ e => e
  subst e
  by_cases hlt : i < N
  · rw [if_pos (by simpa using hlt)]
    refine wpAny_mono (turn i s₁ _ hlt (l.trans (klike k₁)) (Fi.keep (ksub k₁))) (fun f s₂ ⟨hf, l₂, F₂⟩ => ?_) fun _ _ e => e
    have fin : ∃ m, m < N + 1 - i ∧ ∃ i, Like s s₂ ∧ Fm H env X Z (μ i) (ρ i) s₂.heap ∧ i ≤ N ∧ m = N + 1 - i := ⟨N + 1 - (i + 1), by lia, i + 1, (l.trans (klike k₁)).trans l₂, F₂, hlt, rfl⟩
    rcases hf with rfl | rfl <;> exact fin
  · have : i = N := by lia
    subst this
    rw [if_neg (by simpa using hlt)]
    exact wpAny_execs_nil (q s₁ (l.trans (klike k₁)) (Fi.keep (ksub k₁)))

end
end Mine
end
section
open PySem PySem.W PyProof.Rows
set_option Elab.async false
set_option maxRecDepth 100000
set_option linter.unusedVariables false
namespace Mine
section
variable {prog : Program} {w : World} {H : Heap} {env : Env} {X Z Z0 : List Addr} {μ : List (Addr × MSp)} {ρ : List (Str × Sp)} {h h' : Heap} {A : Around} {E : Value → Shared → Prop} {s : Shared} {n : Nat}

/-! ## global names -/
noncomputable def GN (h : Heap) (x : Str) (v : Value) : Prop := ∃ mg mb, h.Ns mainGlobals mg ∧ h.Ns builtinsNs mb ∧ (mg x = some v ∨ (mg x = none ∧ mb x = some v))
structure GEnv (env : Env) : Prop where
  kind : env.scope.kind = .function
  g : env.globals = mainGlobals
  b : env.builtins = builtinsNs
theorem ev_glob {x pos v} (ge : GEnv env) (g : GN h x v) (hx : env.kindOf x = some .globalImplicit) (d : (x == ("__debug__" : Str)) = false) : EV prog w n Z env h (.Name x pos) (V v) := fun A s E rm k => by
  obtain ⟨mg, mb, a, b, c⟩ := g
  refine Calls.Name_function_global ge.kind hx ?_ d
  have fin : Keeps s s ∧ V v (hid Z s.heap) v := ⟨keeps_refl s, rfl⟩
  rcases c with c | ⟨c1, c2⟩
  · exact Calls.loadGlobal_global (ge.g ▸ a.keeps k) c fin
  · exact Calls.loadGlobal_builtin (ge.g ▸ a.keeps k) c1 (ge.b ▸ b.keeps k) c2 fin

/-! ## calls -/
noncomputable def TV (prog : Program) (w : World) (n : Nat) (Z : List Addr) (h : Heap) (t : Sem Value) (S : Sp) : Prop :=
  ∀ A s E, Rm n A → Sub h s.heap → wpAny (model prog w) A t (fun v s' => Keeps s s' ∧ S (hid Z s'.heap) v) E s
inductive TVs (prog : Program) (w : World) (n : Nat) (Z : List Addr) (h : Heap) : List (Bool × Sem Value) → List Sp → Prop
  | nil : TVs prog w n Z h [] []
  | cons {t S ts Ss} (x : TV prog w n Z h t S) (m : Mono S) (xs : TVs prog w n Z h ts Ss) : TVs prog w n Z h ((false, t) :: ts) (S :: Ss)
noncomputable abbrev Args (Z : List Addr) (h : Heap) (Ss : List Sp) (vs : List Value) : Prop := Paired (fun (S : Sp) v => S (hid Z h) v) Ss vs
theorem TVs.plain {ts Ss} (x : TVs prog w n Z h ts Ss) : ts.any (·.1) = false := by
  induction x with
  | nil => rfl
  | cons _ _ _ ih => simpa using ih
theorem spl {ts Ss} (x : TVs prog w n Z h ts Ss) : ∀ {A s} {E : Value → Shared → Prop}, Rm n A → Sub h s.heap → wpAny (model prog w) A (spliced ts) (fun vs s' => Keeps s s' ∧ Args Z s'.heap Ss vs) E s := by
  induction x with
  | nil => intro A s E _ _; exact Calls.spliced_nil ⟨keeps_refl s, .nil⟩
  | cons x m xs ih =>
    intro A s E rm k
    refine Calls.spliced_cons (wpAny_mono (x A s E rm k) (fun v s₁ ⟨k₁, h₁⟩ => wpAny_mono (ih rm (k.trans (ksub k₁))) (fun vs s₂ ⟨k₂, h₂⟩ => ⟨ktr k₁ k₂, .cons (m _ _ _ (hid_sub_mono (ksub k₂)) h₁) h₂⟩) fun _ _ e => e) fun _ _ e => e)
theorem evalArgs_any {f : Value} {ts} {Q : PySem.Args → Shared → Prop} (hp : ts.any (·.1) = false) (q : wpAny (model prog w) A (spliced ts) (fun vs s' => Q ⟨vs, []⟩ s') E s) : wpAny (model prog w) A (evalArgs f true ts []) Q E s := by
  cases ts with
  | nil =>
    unfold evalArgs
    show wpAny _ A (spliced [] >>= _) Q E s
    refine wpAny_bind (wpAny_mono q (fun vs s' h' => ?_) fun _ _ x => x)
    refine wpAny_holding ?_
    exact wpAny_bind (wpAny_pure (wpAny_bind (wpAny_pure (wpAny_pure h'))))
  | cons t r =>
    obtain ⟨b, t⟩ := t
    cases b with
    | true => simp at hp
    | false => exact Calls.evalArgs_plain q

/-- what is called may be called -/
noncomputable def CW (prog : Program) (w : World) (h : Heap) (u : Value) : Prop := ∀ A (s : Shared) (E : Value → Shared → Prop) Q pos first ts, Sub h s.heap → ts.any (·.1) = false →
  wpAny (model prog w) A (spliced ts) (fun vs s' => Sub s.heap s'.heap ∧ wpAny (model prog w) A (call u (first ++ vs)) Q E s') E s → wpAny (model prog w) A (callWith pos u first ts []) Q E s
theorem cw_builtin {id : String} : CW prog w h (.builtin id) := fun A s E Q pos first ts k hp q => Calls.callWith_builtin hp (evalArgs_any hp (wpAny_mono q (fun vs s' x => x.2) fun _ _ e => e))
theorem cw_type {T : String} : CW prog w h (.type T) := fun A s E Q pos first ts k hp q => PySem.callWith_type hp (evalArgs_any hp (wpAny_mono q (fun vs s' x => x.2) fun _ _ e => e))
theorem cw_fn {a : Addr} {o : Obj} {fd : FuncData} (ho : h.get? a = some o) (hd : o.data = .func fd) : CW prog w h (.ref a) := fun A s E Q pos first ts k hp q =>
  Calls.callWith_function (evalArgs_any hp (wpAny_mono q (fun vs s' x => ⟨⟨x.1 _ _ (k _ _ ho), hd⟩, x.2⟩) fun _ _ e => e))

theorem ev_call {f : Expr} {args : List Expr} {pos : Pos} {ts Ss u S Zf Zr} (isn : eval (.Call f args [] pos) env = (do callWith pos (← eval f env) [] (backTo pos (starEach args env)) []))
    (ht : backTo pos (starEach args env) = ts) (ev : EV prog w n Zf env h f (V u)) (cw : CW prog w h u) (xs : TVs prog w n Z h ts Ss)
    (r : ∀ A s E vs, Rm n A → Sub h s.heap → Args Z s.heap Ss vs → wpAny (model prog w) A (call u vs) (fun v s' => Keeps s s' ∧ S (hid Zr s'.heap) v) E s) :
    EV prog w n Zr env h (.Call f args [] pos) S := fun A s E rm k => by
  rw [isn]
  refine wpAny_bind (wpAny_mono (ev A s E rm k) (fun u' s₁ ⟨k₁, e⟩ => ?_) fun _ _ e => e)
  cases e
  rw [ht]
  refine cw A s₁ E _ pos [] ts (k.trans (ksub k₁)) xs.plain (wpAny_mono (spl xs rm (k.trans (ksub k₁))) (fun vs s₂ ⟨k₂, h₂⟩ => ⟨ksub k₂, ?_⟩) fun _ _ e => e)
  exact wpAny_mono (r A s₂ E vs rm ((k.trans (ksub k₁)).trans (ksub k₂)) h₂) (fun v s₃ ⟨k₃, h₃⟩ => ⟨ktr (ktr k₁ k₂) k₃, h₃⟩) fun _ _ e => e

/-- a pure function's contract -/
noncomputable def PC (prog : Program) (w : World) (n : Nat) (H : Heap) (f : Addr) (Ss : List Sp) (S : Sp) : Prop :=
  ∀ A (s : Shared) Z vs R, Rm n A → Sub H s.heap → (∀ z ∈ Z, ∃ o, s.heap.get? z = some o) → Args Z s.heap Ss vs → (∀ v s', Keeps s s' → S (hid Z s'.heap) v → R (.ok (.ret v)) s') → codeAny (model prog w) A (.call (.ref f) ⟨vs, []⟩) R s
theorem PC.le {H f Ss S m} (x : PC prog w n H f Ss S) (k : n ≤ m) : PC prog w m H f Ss S := fun A s Z vs R rm => x A s Z vs R (rm.le k)

theorem ev_callf {f : Expr} {args : List Expr} {pos : Pos} {ts Ss a o fd S Zf} (isn : eval (.Call f args [] pos) env = (do callWith pos (← eval f env) [] (backTo pos (starEach args env)) []))
    (ht : backTo pos (starEach args env) = ts) (ev : EV prog w n Zf env h f (V (.ref a))) (ho : h.get? a = some o) (hd : o.data = .func fd) (xs : TVs prog w n Z h ts Ss)
    (zl : ∀ z ∈ Z, ∃ o, h.get? z = some o) (pc : PC prog w n h a Ss S) : EV prog w n Z env h (.Call f args [] pos) S :=
  ev_call isn ht ev (cw_fn ho hd) xs fun A s E vs rm k x => wpAny_call (pc A s Z vs _ rm k (fun z m => let ⟨o, e⟩ := zl z m; ⟨o, k _ _ e⟩) x fun v s' k' h' => ⟨k', h'⟩)

/-! ## a function is entered -/
theorem bindL_skip {kindOf : Str → Option NameKind} {x : Str} : ∀ (binds : List (Str × Value)) (m : Str → Option Value), x ∉ binds.map (·.1) → bindL kindOf binds m x = m x
  | [], _, _ => rfl
  | (n, v) :: r, m, h => by
    unfold bindL
    rw [bindL_skip r _ fun q => h (.tail _ q)]
    split
    · have : x ≠ n := fun q => h (q ▸ List.mem_cons_self)
      simp [this]
    · rfl
theorem bindL_get {kindOf : Str → Option NameKind} {x : Str} {v : Value} (hk : kindOf x = some .local) : ∀ (binds : List (Str × Value)) (m : Str → Option Value), (binds.map (·.1)).Nodup → binds.lookup x = some v → bindL kindOf binds m x = some v
  | [], _, _, h => by simp at h
  | (n, u) :: r, m, nd, h => by
    rw [List.map_cons, List.nodup_cons] at nd
    rw [List.lookup_cons] at h
    unfold bindL
    cases hb : x == n with
    | true =>
      rw [hb] at h; cases h
      have e : x = n := beq_iff_eq.mp hb
      subst e
      rw [bindL_skip r _ nd.1, if_pos hk]; simp
    | false => rw [hb] at h; exact bindL_get hk r _ nd.2 h
theorem bindC_skip {kindOf : Str → Option NameKind} {x : Str} : ∀ (binds : List (Str × Value)) (m : Str → Option Value), x ∉ binds.map (·.1) → bindC kindOf binds m x = m x
  | [], _, _ => rfl
  | (n, v) :: r, m, h => by
    unfold bindC
    rw [bindC_skip r _ fun q => h (.tail _ q)]
    split
    · rfl
    · have : x ≠ n := fun q => h (q ▸ List.mem_cons_self)
      simp [this]
theorem bindC_get {kindOf : Str → Option NameKind} {x : Str} {v : Value} (hk : kindOf x = some .cell) : ∀ (binds : List (Str × Value)) (m : Str → Option Value), (binds.map (·.1)).Nodup → binds.lookup x = some v → bindC kindOf binds m x = some v
  | [], _, _, h => by simp at h
  | (n, u) :: r, m, nd, h => by
    rw [List.map_cons, List.nodup_cons] at nd
    rw [List.lookup_cons] at h
    unfold bindC
    cases hb : x == n with
    | true =>
      rw [hb] at h; cases h
      have e : x = n := beq_iff_eq.mp hb
      subst e
      rw [bindC_skip r _ nd.1, if_neg (by rw [hk]; decide)]; simp
    | false => rw [hb] at h; exact bindC_get hk r _ nd.2 h

/-- the names of a call -/
inductive Binds (Z : List Addr) (h : Heap) : List (Str × Value) → List (Str × Sp) → Prop
  | nil : Binds Z h [] []
  | cons {x v S bs ρ} (hS : S (hid Z h) v) (m : Mono S) (t : Binds Z h bs ρ) : Binds Z h ((x, v) :: bs) ((x, S) :: ρ)
theorem Binds.get {Z h} : ∀ {bs ρ} (_ : Binds Z h bs ρ) {x S}, ρ.lookup x = some S → Mono S ∧ ∃ v, bs.lookup x = some v ∧ S (hid Z h) v
  | _, _, .nil, x, S, e => by simp at e
  | _, _, .cons (x := y) hS m t, x, S, e => by
    rw [List.lookup_cons] at e
    cases hb : x == y with
    | true => rw [hb] at e; cases e; exact ⟨m, _, by rw [List.lookup_cons, hb], hS⟩
    | false =>
      rw [hb] at e
      obtain ⟨a, v, b, c⟩ := t.get e
      exact ⟨a, v, by rw [List.lookup_cons, hb]; exact b, c⟩

structure FnAt (h : Heap) (a : Addr) (fd : FuncData) : Prop where
  obj : ∃ o, h.get? a = some o ∧ o.data = .func fd
  code : h.CodeRec fd.code fd.qualname
  nolimit : h.NoLimit
theorem lookup_mem {α : Type} {l : List (Str × α)} {x : Str} {c : α} (e : l.lookup x = some c) : (x, c) ∈ l := mem_of_lookup e

noncomputable abbrev cellAddrs (L : Addr) (sc : Scope) : List Addr := (cellsFrom (L + 1) sc.names []).map (·.2)
theorem code_call_cells {R : Result → Shared → Prop} {a : Addr} {o : Obj} {fd : FuncData} {body : List Stmt} {vals : List Value} {binds : List (Str × Value)}
    (hroom : A.depth < recursionLimit) (ho : s.heap.get? a = some o) (hdata : o.data = .func fd) (hlim : s.heap.NoLimit) (hcd : s.heap.CodeRec fd.code fd.qualname)
    (hbody : fd.body = .stmts body) (hbind : BindsTo s fd ⟨vals, []⟩ binds) (hclo : fd.closure = [])
    (hkind : ∀ x ∈ binds, fd.scope.names.lookup x.1 = some .local ∨ (fd.scope.names.lookup x.1 = some .cell ∧ ((cellsFrom (s.heap.objs.size + 1) fd.scope.names []).lookup x.1).isSome = true))
    (h : ∀ s₁, InCallC s (callEnvC fd s.heap.objs.size a).locals (bindL (callEnvC fd s.heap.objs.size a).kindOf binds fun _ => none) (callEnvC fd s.heap.objs.size a).cells
        (bindC (callEnvC fd s.heap.objs.size a).kindOf binds fun _ => none) s₁ →
      wpAny (model prog w) (A.deeper (callEnvC fd s.heap.objs.size a)) (execs body (callEnvC fd s.heap.objs.size a)) (fun f s' => R (.ok (.ret (match f with | .ret v => v | _ => .none))) s')
        (fun e s' => wpAny (model prog w) (A.deeper (callEnvC fd s.heap.objs.size a)) (leaving (callEnvC fd s.heap.objs.size a) e) (fun _ s'' => R (.error e) s'') (fun e' s'' => R (.error e') s'') s') s₁)
    (hco : fd.scope.isCoroutine = false) (hgen : fd.scope.isGenerator = false) (hk : fd.scope.kind = .function) :
    codeAny (model prog w) A (.call (.ref a) ⟨vals, []⟩) R s := by
  refine codeAny_call_function hroom ho hdata hco hgen hbody hcd (hbind _ _ _ _ ?_)
  rw [hclo]
  refine wpAny_newFunctionEnv_cells hk hkind fun env he s' x => ?_
  subst he
  exact ⟨hlim.keeps x.toInCall.keep, codeAny_func (h s' x)⟩
theorem enter_fnB {fd : FuncData} {a : Addr} {body : List Stmt} {vals : List Value} {binds : List (Str × Value)} {R : Result → Shared → Prop} {Xc : List Addr} (rm : Rm (n + 1) A) (fa : FnAt s.heap a fd) (hbody : fd.body = .stmts body)
    (hbind : BindsTo s fd ⟨vals, []⟩ binds) (hclo : fd.closure = [])
    (hkind : ∀ L, ∀ x ∈ binds, fd.scope.names.lookup x.1 = some .local ∨ (fd.scope.names.lookup x.1 = some .cell ∧ ((cellsFrom L fd.scope.names []).lookup x.1).isSome = true))
    (hnd : (binds.map (·.1)).Nodup) (hcn : ∀ L, ∀ p ∈ cellsFrom L fd.scope.names [], (cellsFrom L fd.scope.names []).lookup p.1 = some p.2) (zl : ∀ z ∈ Z, ∃ o, s.heap.get? z = some o) (hco : fd.scope.isCoroutine = false) (hgen : fd.scope.isGenerator = false) (hk : fd.scope.kind = .function)
    (hz : ∀ z ∈ Xc, z ∈ Z) (bs : Binds Z s.heap binds ρ) (hmu : ∀ p ∈ μ, p.1 ∈ Xc ∧ MonoM p.2 ∧ ∃ o, s.heap.get? p.1 = some o ∧ p.2 (hid Z s.heap) o) (hmn : (μ.map (·.1)).Nodup)
    (q : ∀ L s₁ E', L = s.heap.objs.size → Rm n (A.deeper (callEnvC fd L a)) → Like s s₁ → Fm (hid Xc s.heap) (callEnvC fd L a) (L :: (cellAddrs L fd.scope ++ Xc)) (L :: (cellAddrs L fd.scope ++ Z)) μ ρ s₁.heap → Sub s.heap s₁.heap →
      wpAny (model prog w) (A.deeper (callEnvC fd L a)) (execs body (callEnvC fd L a)) (fun f s' => R (.ok (.ret (match f with | .ret v => v | _ => .none))) s') E' s₁) :
    codeAny (model prog w) A (.call (.ref a) ⟨vals, []⟩) R s := by
  obtain ⟨o, ho, hd⟩ := fa.obj
  have rd : A.depth < recursionLimit := by have := rm.depth; show _ < 1000; lia
  refine code_call_cells rd ho hd fa.nolimit fa.code hbody hbind hclo (hkind _) (fun s₁ x => ?_) hco hgen hk
  refine q s.heap.objs.size s₁ _ rfl ⟨rm.hh, ?_, ?_⟩ ?_ ?_ x.toInCall.keep
  · have := rm.depth; show A.depth + 1 + n < 1000; lia
  · have := rm.units; show A.units + 3 + 20 * n < 9900; lia
  · obtain ⟨h', tk, e⟩ := x.toInCall.same; exact ⟨h', tk, e⟩
  · -- the frame
    have cellmem : ∀ y c, (callEnvC fd s.heap.objs.size a).cells.lookup y = some c → c ∈ cellAddrs s.heap.objs.size fd.scope := fun y c e => List.mem_map.mpr ⟨(y, c), lookup_mem e, rfl⟩
    have above : ∀ c ∈ cellAddrs s.heap.objs.size fd.scope, s.heap.objs.size < c := fun c hc => by
      obtain ⟨⟨y, c'⟩, hm, rfl⟩ := List.mem_map.mp hc
      exact x.above y c' hm
    have fresh : ∀ b, s.heap.objs.size ≤ b → s.heap.get? b = none := fun b hb => by
      cases e : s.heap.get? b with
      | none => rfl
      | some o => exact absurd (Heap.lt_size e) (Nat.not_lt.mpr hb)
    have kz : Sub (hid Z s.heap) (hid (s.heap.objs.size :: (cellAddrs s.heap.objs.size fd.scope ++ Z)) s₁.heap) := fun b o e => by
      have e1 := hid_sub Z _ _ _ e
      have hb := Heap.lt_size e1
      refine hid_get (x.toInCall.keep b o e1) fun hm => ?_
      rcases List.mem_cons.mp hm with q | q
      · exact Nat.ne_of_lt hb q
      · rcases List.mem_append.mp q with q | q
        · exact Nat.ne_of_lt (Nat.lt_trans hb (above b q)) rfl
        · rw [hid_none q] at e; cases e
    exact {
      kind := hk
      sub := fun b o e => x.toInCall.keep b o (hid_sub Xc _ _ _ e)
      zz := fun z hm => by
        rcases List.mem_cons.mp hm with q | q
        · cases e : (hid Xc s.heap).get? z with
          | none => rfl
          | some o => have := hid_sub _ _ _ _ e; rw [fresh z (by rw [q]; exact Nat.le_refl _)] at this; cases this
        · rcases List.mem_append.mp q with q | q
          · cases e : (hid Xc s.heap).get? z with
            | none => rfl
            | some o => have := hid_sub _ _ _ _ e; rw [fresh z (Nat.le_of_lt (above z q))] at this; cases this
          · exact hid_none q
      xz := fun z hm => by
        rcases List.mem_cons.mp hm with q | q
        · exact q ▸ List.mem_cons_self
        · rcases List.mem_append.mp q with q | q
          · exact .tail _ (List.mem_append_left _ q)
          · exact .tail _ (List.mem_append_right _ (hz z q))
      ns := ⟨_, x.toInCall.ns⟩
      cells := fun y c _ e => ⟨⟨_, x.cell y c e⟩, .tail _ (List.mem_append_left _ (cellmem y c e))⟩
      apart := fun y y' c e e' => name_of_addr x.apart (lookup_mem e) (lookup_mem e')
      alive := fun y c e => let ⟨o, h, _⟩ := x.cell y c e; ⟨o, h⟩
      L := List.mem_cons_self
      vars := fun y S e => by
        obtain ⟨mS, v, hv, hS⟩ := bs.get e
        have hkd := hkind (s.heap.objs.size + 1) (y, v) (lookup_mem hv)
        refine ⟨mS, ?_, v, ?_, mS _ _ _ kz hS⟩
        · rcases hkd with q | ⟨q, _⟩ <;> (intro c; have c' : fd.scope.names.lookup y = some .free := c; rw [q] at c'; cases c')
        · rcases hkd with q | ⟨q, q2⟩
          · exact .loc q x.toInCall.ns (bindL_get q binds _ hnd hv)
          · obtain ⟨c, hc⟩ := Option.isSome_iff_exists.mp q2
            exact .cell (.inl q) hc (bindC_get (kindOf := (callEnvC fd s.heap.objs.size a).kindOf) q binds (fun _ => none) hnd hv ▸ x.cell y c hc)
      own := fun p hp => by
        obtain ⟨a1, a2, o, a3, a4⟩ := hmu p hp
        have hb := Heap.lt_size a3
        exact ⟨.tail _ (List.mem_append_right _ a1), a2, Nat.ne_of_lt hb, fun y e => Nat.ne_of_lt (Nat.lt_trans hb (above _ (cellmem y _ e))) rfl, o, x.toInCall.keep _ _ a3, a2 _ _ _ kz a4⟩
      nodup := hmn
      live := fun z hm => by
        rcases List.mem_cons.mp hm with q | q
        · obtain ⟨o, es, ep, e, _⟩ := x.toInCall.ns
          exact ⟨o, q ▸ e⟩
        · rcases List.mem_append.mp q with q | q
          · obtain ⟨⟨y, c'⟩, hm2, rfl⟩ := List.mem_map.mp q
            obtain ⟨o, e, _⟩ := x.cell y c' (hcn (s.heap.objs.size + 1) (y, c') hm2)
            exact ⟨o, e⟩
          · obtain ⟨o, e⟩ := zl z q
            exact ⟨o, x.toInCall.keep _ _ e⟩ }
theorem enter_fn {fd : FuncData} {a : Addr} {body : List Stmt} {vals : List Value} {binds : List (Str × Value)} {R : Result → Shared → Prop} {Xc : List Addr} (rm : Rm (n + 1) A) (fa : FnAt s.heap a fd) (hbody : fd.body = .stmts body)
    (hbind : bindArgs fd ⟨vals, []⟩ = pure binds) (hclo : fd.closure = [])
    (hkind : ∀ L, ∀ x ∈ binds, fd.scope.names.lookup x.1 = some .local ∨ (fd.scope.names.lookup x.1 = some .cell ∧ ((cellsFrom L fd.scope.names []).lookup x.1).isSome = true))
    (hnd : (binds.map (·.1)).Nodup) (hcn : ∀ L, ∀ p ∈ cellsFrom L fd.scope.names [], (cellsFrom L fd.scope.names []).lookup p.1 = some p.2) (zl : ∀ z ∈ Z, ∃ o, s.heap.get? z = some o) (hco : fd.scope.isCoroutine = false) (hgen : fd.scope.isGenerator = false) (hk : fd.scope.kind = .function)
    (hz : ∀ z ∈ Xc, z ∈ Z) (bs : Binds Z s.heap binds ρ) (hmu : ∀ p ∈ μ, p.1 ∈ Xc ∧ MonoM p.2 ∧ ∃ o, s.heap.get? p.1 = some o ∧ p.2 (hid Z s.heap) o) (hmn : (μ.map (·.1)).Nodup)
    (q : ∀ L s₁ E', L = s.heap.objs.size → Rm n (A.deeper (callEnvC fd L a)) → Like s s₁ → Fm (hid Xc s.heap) (callEnvC fd L a) (L :: (cellAddrs L fd.scope ++ Xc)) (L :: (cellAddrs L fd.scope ++ Z)) μ ρ s₁.heap → Sub s.heap s₁.heap →
      wpAny (model prog w) (A.deeper (callEnvC fd L a)) (execs body (callEnvC fd L a)) (fun f s' => R (.ok (.ret (match f with | .ret v => v | _ => .none))) s') E' s₁) :
    codeAny (model prog w) A (.call (.ref a) ⟨vals, []⟩) R s :=
  enter_fnB rm fa hbody (BindsTo.of_eq hbind) hclo hkind hnd hcn zl hco hgen hk hz bs hmu hmn q
end
end Mine
end
section
open PySem PySem.W PyProof.Rows
set_option Elab.async false
set_option maxRecDepth 100000
set_option linter.unusedVariables false
namespace Mine

/-! ## the text's own objects -/
noncomputable def fdOf (K : Frag) (a : Addr) : FuncData := match K.lookup a with
  | some o => (match o.data with | .func fd => fd | _ => default)
  | none => default
noncomputable def bodyOf (fd : FuncData) : List Stmt := match fd.body with | .stmts b => b | _ => []
noncomputable def isFnB (K : Frag) (a : Addr) : Bool := match K.lookup a with
  | some o => (match o.data with | .func fd => codeIn K fd.code fd.qualname && (match fd.body with | .stmts _ => true | _ => false) | _ => false)
  | none => false
theorem fnAt_of {K : Frag} {h : Heap} {a : Addr} (X : K.In h) (nl : h.NoLimit) (e : isFnB K a = true) : FnAt h a (fdOf K a) ∧ (fdOf K a).body = .stmts (bodyOf (fdOf K a)) := by
  unfold isFnB at e
  split at e
  · rename_i o ho
    split at e
    · rename_i fd hd
      have q : fdOf K a = fd := by unfold fdOf; rw [ho]; dsimp only; rw [hd]
      rw [Bool.and_eq_true] at e
      obtain ⟨e1, e2⟩ := e
      rw [q]
      refine ⟨⟨⟨o, X _ _ ho, hd⟩, codeRec_of X e1, nl⟩, ?_⟩
      unfold bodyOf
      split at e2
      · rename_i b hb; rw [hb]
      · cases e2
    · cases e
  · cases e
/-- what every call leans on -/
structure PF (K : Frag) (h : Heap) : Prop where
  X : K.In h
  nl : h.NoLimit
  bt : ∃ mg mb, h.Ns mainGlobals mg ∧ h.Ns builtinsNs mb ∧ ∀ x : Str, x ≠ "__name__" → mb x = bootBuiltins x
theorem PF.sub {K h h'} (k : Sub h h') (p : PF K h) : PF K h' := ⟨p.X.keeps k, p.nl.keeps k, let ⟨mg, mb, a, b, c⟩ := p.bt; ⟨mg, mb, a.keeps k, b.keeps k, c⟩⟩
noncomputable def globIn (K : Frag) (x : Str) : Option (Option Value) := nsIn K mainGlobals x
theorem gn_own {K h x v} (p : PF K h) (e : globIn K x = some (some v)) : GN h x v := by
  obtain ⟨mg, mb, a, b, c⟩ := p.bt
  refine ⟨mg, mb, a, b, .inl ?_⟩
  unfold globIn nsIn at e
  split at e
  · rename_i es _ _ ho
    split at e
    · rename_i en hen
      cases e
      obtain ⟨o, es', ep, h1, h2, _, h3⟩ := a
      have := p.X _ _ ho
      rw [this] at h1; cases h1
      cases h2
      rw [← h3]
      unfold nsFind findBy
      rw [← Array.find?_toList, hen]; rfl
    · split at e <;> cases e
  · cases e
theorem gn_boot {K h x v} (p : PF K h) (e : globIn K x = some none) (n : x ≠ "__name__") (bv : bootBuiltins x = some v) : GN h x v := by
  obtain ⟨mg, mb, a, b, c⟩ := p.bt
  refine ⟨mg, mb, a, b, .inr ⟨?_, (c x n).trans bv⟩⟩
  unfold globIn nsIn at e
  split at e
  · rename_i es _ _ ho
    split at e
    · cases e
    · rename_i hen
      obtain ⟨o, es', ep, h1, h2, _, h3⟩ := a
      have := p.X _ _ ho
      rw [this] at h1; cases h1
      cases h2
      rw [← h3]
      unfold nsFind findBy
      rw [← Array.find?_toList, hen]; rfl
  · cases e
end Mine
end
section
open PySem PySem.W PyProof.Rows
set_option Elab.async false
set_option maxRecDepth 100000
set_option linter.unusedVariables false
namespace Mine
section
variable {prog : Program} {w : World} {H : Heap} {env : Env} {X Z Z1 Z2 Z0 : List Addr} {μ : List (Addr × MSp)} {ρ : List (Str × Sp)} {h h' : Heap} {A : Around} {E : Value → Shared → Prop} {s : Shared} {n : Nat}

/-! ## truth -/
theorem evb_of {e S b} (ev : EV prog w n Z env h e S) (he : isTrue e env (eval e env) = (do let v ← eval e env; standAt e.pos; holding [v] (truthy v)))
    (r : ∀ A s E v, Rm n A → S (hid Z s.heap) v → wpAny (model prog w) A (truthy v) (fun r s' => r = b ∧ Keeps s s') E s) : EVb prog w n env h e b := fun A s E rm k =>
  wpAny_isTrue_value (wpAny_mono (ev A s E rm k) (fun v s₁ ⟨k₁, h₁⟩ => wpAny_mono (r A s₁ E v rm h₁) (fun r s₂ ⟨e, k₂⟩ => ⟨e, ktr k₁ k₂⟩) fun _ _ e => e) fun _ _ e => e) he
theorem evb_int {e i} (ev : EV prog w n Z env h e (I i)) (he : isTrue e env (eval e env) = (do let v ← eval e env; standAt e.pos; holding [v] (truthy v))) : EVb prog w n env h e (i != 0) :=
  evb_of ev he fun A s E v rm ⟨t, e⟩ => by subst e; exact P.truthy_int ⟨rfl, keeps_refl s⟩

/-! ## comparisons -/
theorem ev_cmp {e1 e2 op pos S1 S2 b} (x : EV prog w n Z1 env h e1 S1) (y : EV prog w n Z2 env h e2 S2) (m : Mono S1) (hm : behindInMarks op e2 = false)
    (r : ∀ A s E a c, Rm n A → S1 (hid Z1 s.heap) a → S2 (hid Z2 s.heap) c → wpAny (model prog w) A (compareOp op a c) (fun v s' => Keeps s s' ∧ v = .bool b) E s) :
    EV prog w n Z env h (.Compare e1 [op] [e2] pos) (Bo b) := fun A s E rm k =>
  wpAny_Compare1 (wpAny_mono (x A s E rm k) (fun a s1 ⟨k1, h1⟩ => wpAny_mono (y A s1 E rm (k.trans (ksub k1))) (fun c s2 ⟨k2, h2⟩ =>
    wpAny_mono (r A s2 E a c rm (m _ _ _ (hid_sub_mono (ksub k2)) h1) h2) (fun v s3 ⟨k3, h3⟩ => ⟨ktr (ktr k1 k2) k3, h3⟩) fun _ _ e => e) fun _ _ e => e) fun _ _ e => e) hm
theorem evb_cmp {e1 e2 op pos S1 S2 b} (x : EV prog w n Z1 env h e1 S1) (y : EV prog w n Z2 env h e2 S2) (m : Mono S1) (hm : behindInMarks op e2 = false)
    (r : ∀ A s E a c, Rm n A → S1 (hid Z1 s.heap) a → S2 (hid Z2 s.heap) c → wpAny (model prog w) A (compareOp op a c) (fun v s' => Keeps s s' ∧ v = .bool b) E s) :
    EVb prog w n env h (.Compare e1 [op] [e2] pos) b := fun A s E rm k =>
  wpAny_isTrue_Compare1 (wpAny_mono (x A s E rm k) (fun a s1 ⟨k1, h1⟩ => wpAny_mono (y A s1 E rm (k.trans (ksub k1))) (fun c s2 ⟨k2, h2⟩ =>
    wpAny_mono (r A s2 E a c rm (m _ _ _ (hid_sub_mono (ksub k2)) h1) h2) (fun v s3 ⟨k3, h3⟩ => by subst h3; exact wpAny_truthy_bool ⟨rfl, ktr (ktr k1 k2) k3⟩) fun _ _ e => e) fun _ _ e => e) fun _ _ e => e) hm

noncomputable abbrev CmpR (prog : Program) (w : World) (n : Nat) (op : CmpOp) (S1 S2 : Sp) (b : Bool) : Prop := ∀ A (s : Shared) Z1 Z2 E a c, Rm n A → S1 (hid Z1 s.heap) a → S2 (hid Z2 s.heap) c → wpAny (model prog w) A (compareOp op a c) (fun v s' => Keeps s s' ∧ v = .bool b) E s
theorem cmp_eq {a b} : CmpR prog w n .Eq (I a) (I b) (a == b) := fun A s _ _ E v u _ ⟨t, e⟩ ⟨t', e'⟩ => by subst e e'; exact P.eq_int ⟨keeps_refl s, rfl⟩
theorem cmp_ne {a b} : CmpR prog w n .NotEq (I a) (I b) (a != b) := fun A s _ _ E v u _ ⟨t, e⟩ ⟨t', e'⟩ => by subst e e'; exact P.ne_int ⟨keeps_refl s, rfl⟩
theorem cmp_lt {a b} : CmpR prog w n .Lt (I a) (I b) (decide (a < b)) := fun A s _ _ E v u _ ⟨t, e⟩ ⟨t', e'⟩ => by subst e e'; exact P.lt_int ⟨keeps_refl s, rfl⟩
theorem cmp_gt {a b} : CmpR prog w n .Gt (I a) (I b) (decide (a > b)) := fun A s _ _ E v u _ ⟨t, e⟩ ⟨t', e'⟩ => by subst e e'; exact P.gt_int ⟨keeps_refl s, rfl⟩
theorem cmp_ge {a b} : CmpR prog w n .GtE (I a) (I b) (decide (a ≥ b)) := fun A s _ _ E v u _ ⟨t, e⟩ ⟨t', e'⟩ => by subst e e'; exact P.ge_int ⟨keeps_refl s, rfl⟩
/-! ## built-in functions of values -/
noncomputable abbrev CallR (prog : Program) (w : World) (n : Nat) (u : Value) (Ss : List Sp) (S : Sp) : Prop := ∀ A (s : Shared) Z Zr E vs, Rm n A → Args Z s.heap Ss vs → wpAny (model prog w) A (call u vs) (fun v s' => Keeps s s' ∧ S (hid Zr s'.heap) v) E s
theorem ev_callr {f : Expr} {args : List Expr} {pos : Pos} {ts Ss u S Zf Zr} (isn : eval (.Call f args [] pos) env = (do callWith pos (← eval f env) [] (backTo pos (starEach args env)) []))
    (ht : backTo pos (starEach args env) = ts) (ev : EV prog w n Zf env h f (V u)) (cw : CW prog w h u) (xs : TVs prog w n Z h ts Ss) (r : CallR prog w n u Ss S) : EV prog w n Zr env h (.Call f args [] pos) S :=
  ev_call isn ht ev cw xs fun A s E vs rm _ x => r A s Z Zr E vs rm x
noncomputable abbrev IsN (env : Env) (f : Expr) (args : List Expr) (pos : Pos) : Prop := eval (.Call f args [] pos) env = (do callWith pos (← eval f env) [] (backTo pos (starEach args env)) [])
theorem ev_call1 {f e1 : Expr} {pos : Pos} {u S S1 Zr} (isn : IsN env f [e1] pos) (ht : backTo pos (starEach [e1] env) = [(false, eval e1 env)]) (ev : EV prog w n [] env h f (V u)) (cw : CW prog w h u)
    (x1 : EV prog w n [] env h e1 S1) (m1 : Mono S1) (r : CallR prog w n u [S1] S) : EV prog w n Zr env h (.Call f [e1] [] pos) S := ev_callr isn ht ev cw (.cons x1 m1 .nil) r
/-- calls whose value is a new thing: Z lives -/
noncomputable abbrev CallZ (prog : Program) (w : World) (n : Nat) (u : Value) (Ss : List Sp) (S : Sp) : Prop := ∀ A (s : Shared) Z E vs, Rm n A → (∀ z ∈ Z, ∃ o, s.heap.get? z = some o) → Args Z s.heap Ss vs → wpAny (model prog w) A (call u vs) (fun v s' => Keeps s s' ∧ S (hid Z s'.heap) v) E s
theorem zl_sub {Z : List Addr} (zl : ∀ z ∈ Z, ∃ o, h.get? z = some o) (k : Sub h h') : ∀ z ∈ Z, ∃ o, h'.get? z = some o := fun z m => let ⟨o, e⟩ := zl z m; ⟨o, k _ _ e⟩
theorem ev_callz1 {f e1 : Expr} {pos : Pos} {u S S1} (isn : IsN env f [e1] pos) (ht : backTo pos (starEach [e1] env) = [(false, eval e1 env)]) (ev : EV prog w n [] env h f (V u)) (cw : CW prog w h u) (zl : ∀ z ∈ Z, ∃ o, h.get? z = some o)
    (x1 : EV prog w n Z env h e1 S1) (m1 : Mono S1) (r : CallZ prog w n u [S1] S) : EV prog w n Z env h (.Call f [e1] [] pos) S := ev_call isn ht ev cw (.cons x1 m1 .nil) fun A s E vs rm k x => r A s Z E vs rm (zl_sub zl k) x
theorem ev_callz2 {f e1 e2 : Expr} {pos : Pos} {u S S1 S2} (isn : IsN env f [e1, e2] pos) (ht : backTo pos (starEach [e1, e2] env) = [(false, eval e1 env), (false, eval e2 env)]) (ev : EV prog w n [] env h f (V u)) (cw : CW prog w h u) (zl : ∀ z ∈ Z, ∃ o, h.get? z = some o)
    (x1 : EV prog w n Z env h e1 S1) (m1 : Mono S1) (x2 : EV prog w n Z env h e2 S2) (m2 : Mono S2) (r : CallZ prog w n u [S1, S2] S) : EV prog w n Z env h (.Call f [e1, e2] [] pos) S := ev_call isn ht ev cw (.cons x1 m1 (.cons x2 m2 .nil)) fun A s E vs rm k x => r A s Z E vs rm (zl_sub zl k) x
theorem args1 {S : Sp} {vs : List Value} (x : Args Z h [S] vs) : ∃ v, vs = [v] ∧ S (hid Z h) v := by cases x with | cons p q => cases q; exact ⟨_, rfl, p⟩
theorem args2 {S S' : Sp} {vs : List Value} (x : Args Z h [S, S'] vs) : ∃ v v', vs = [v, v'] ∧ S (hid Z h) v ∧ S' (hid Z h) v' := by cases x with | cons p q => cases q with | cons q r => cases r; exact ⟨_, _, rfl, p, q⟩
theorem args3 {S S' S'' : Sp} {vs : List Value} (x : Args Z h [S, S', S''] vs) : ∃ v v' v'', vs = [v, v', v''] ∧ S (hid Z h) v ∧ S' (hid Z h) v' ∧ S'' (hid Z h) v'' := by
  cases x with | cons p q => cases q with | cons q r => cases r with | cons r t => cases t; exact ⟨_, _, _, rfl, p, q, r⟩
theorem call_abs {a : Int} : CallR prog w n (.builtin "abs") [I a] (I (if a < 0 then -a else a)) := fun A s Z Zr E vs rm x => by
  obtain ⟨t, rfl⟩ : ∃ t, vs = [.int a t] := by cases x with | cons p q => obtain ⟨t, rfl⟩ := p; cases q; exact ⟨t, rfl⟩
  exact PyProof.Rows.call_abs_int fun u tk => ⟨keeps_tok s tk, u, rfl⟩
theorem call_int {a : Int} : CallR prog w n (.type "int") [I a] (I a) := fun A s Z Zr E vs rm x => by
  obtain ⟨t, rfl⟩ : ∃ t, vs = [.int a t] := by cases x with | cons p q => obtain ⟨t, rfl⟩ := p; cases q; exact ⟨t, rfl⟩
  exact call_int_int ⟨keeps_refl s, t, rfl⟩
theorem call_divmod {a b : Int} (hb : b ≠ 0) (hp : b.natAbs < 1073741824) : CallZ prog w n (.builtin "divmod") [I a, I b] (T2 I I (a.fdiv b, a.fmod b)) := fun A s Z E vs rm zl x => by
  obtain ⟨_, _, rfl, ⟨t, rfl⟩, ⟨u, rfl⟩⟩ := args2 x
  refine PyProof.Rows.divmod_int hb ⟨⟨_, _, rfl, fun b o e => Heap.get?_push_of_some _ e⟩, _, _, _, rfl, ⟨_, hid_get (Heap.get?_push_size _ rfl) fun hm => ?_, rfl, 0, rfl⟩, ⟨_, rfl⟩, ⟨_, rfl⟩⟩ (.inl (PyProof.noPylong_small hp))
  obtain ⟨o, e⟩ := zl _ hm
  exact Nat.lt_irrefl _ (Heap.lt_size e)

/-! ## tuples are taken apart -/
theorem bl_assign2 {x y : Str} {px py tp pos : Pos} {k : Nat} {e : Expr} {α β : Type} {R1 : α → Sp} {R2 : β → Sp} {p : α × β} {rest : List Stmt} {Q : Flow → Shared → Prop} (F : Fm H env X Z μ ρ s.heap) (rm : Rm n A)
    (ev : EV prog w n Z env s.heap e (T2 R1 R2 p)) (m1 : Mono (R1 p.1)) (m2 : Mono (R2 p.2)) (hx : Stores env x) (hy : Stores env y)
    (hs : swapsWithSole [.Tuple [.Name x px, .Name y py] k tp] e pos.line env = pure false) (hw : swappedStores [.Tuple [.Name x px, .Name y py] k tp] e env = pure none)
    (q : ∀ s', Like s s' → Fm H env X Z μ ((y, R2 p.2) :: (x, R1 p.1) :: ρ) s'.heap → wpAny (model prog w) A (execs rest env) Q E s') :
    wpAny (model prog w) A (execs (.Assign [.Tuple [.Name x px, .Name y py] k tp] e pos :: rest) env) Q E s := by
  refine wpAny_execs_cons (PyProof.Rows.Assign_Tuple (wpAny_mono (ev A s E rm (Sub.refl _)) (fun v s₁ ⟨k₁, a, u1, u2, e1, ht, r1, r2⟩ => ?_) fun _ _ e => e) hs hw)
  subst e1
  have ht' : s₁.heap.IsTuple a #[u1, u2] := isTuple_sub (hid_sub Z _) ht
  refine wpAny_assign_Tuple rm.hh ht' rfl rfl fun h' eb => ?_
  have kb : Sub s₁.heap h' := fun b o e => eb b o (Nat.ne_of_lt (Heap.lt_size e)) e
  have F₁ := (F.keep (ksub k₁)).keep kb
  show wpAny _ _ (assignInOrder [assign (.Name x px) env, assign (.Name y py) env] [u1, u2]) _ _ _
  refine wpAny_assignInOrder_more (wpAny_assign_Name (st_nameX F₁ m1 (m1 _ _ _ (hid_sub_mono kb) r1) hx fun s₂ l₂ F₂ k₂ => ?_))
  have r2' : R2 p.2 (hid Z s₂.heap) u2 := m2 _ _ _ (hid_mono fun b o hb e => k₂ b o (fun m => hb (F.xz _ m)) (kb _ _ e)) r2
  refine wpAny_assignInOrder_more (tgt_name F₂ m2 r2' hy fun s₃ l₃ F₃ => wpAny_assignInOrder_none ?_)
  exact q s₃ (((klike k₁).trans ⟨h', _, rfl⟩).trans (l₂.trans l₃)) F₃
end
theorem sel_nil {ρ : List (Str × Sp)} : ∀ p ∈ ([] : List (Str × Sp)), ρ.lookup p.1 = some p.2 := fun _ h => nomatch h
theorem sel_cons {ρ ρ' : List (Str × Sp)} {x : Str} {S : Sp} (a : ρ.lookup x = some S) (b : ∀ p ∈ ρ', ρ.lookup p.1 = some p.2) : ∀ p ∈ (x, S) :: ρ', ρ.lookup p.1 = some p.2 := fun p h => by
  rcases List.mem_cons.mp h with rfl | h
  · exact a
  · exact b p h
theorem Fm.sel {H env X Z μ h} {ρ ρ' : List (Str × Sp)} (F : Fm H env X Z μ ρ h) (k : ∀ p ∈ ρ', ρ.lookup p.1 = some p.2) : Fm H env X Z μ ρ' h := F.rho fun x S e => k (x, S) (mem_of_lookup e)
end Mine
end
section
open PySem
set_option Elab.async false
set_option maxRecDepth 100000
set_option linter.unusedVariables false
namespace Mine
open PySem.Sre PySem.Sre.M

/-! ## the machine, n steps -/
theorem runFor_add (a b : Nat) (m : M) : M.runFor (a + b) m = M.runFor b (M.runFor a m) := by
  induction a generalizing m with
  | zero => rw [Nat.zero_add]; rfl
  | succ a ih =>
    rw [Nat.succ_add]
    show (if m.outcome.isSome then m else M.runFor (a + b) m.step) = M.runFor b (if m.outcome.isSome then m else M.runFor a m.step)
    by_cases h : m.outcome.isSome
    · rw [if_pos h, if_pos h]
      cases b with
      | zero => rfl
      | succ b => show m = if m.outcome.isSome then m else _; rw [if_pos h]
    · rw [if_neg h, if_neg h]; exact ih _
theorem runFor_end {m : M} (h : m.outcome.isSome = true) (n : Nat) : M.runFor n m = m := by
  cases n with
  | zero => rfl
  | succ n => show (if m.outcome.isSome then m else _) = m; rw [if_pos h]

noncomputable def code1 : Array Nat := #[14, 4, 0, 1, 1, 6, 1, 16, 46, 1]
noncomputable def code2 : Array Nat := #[14, 9, 4, 1, 2, 16, 10, 16, 13, 0, 7, 7, 16, 13, 16, 10, 15, 18, 5, 16, 10, 15, 13, 11, 16, 13, 5, 5, 0, 16, 10, 1, 15, 2, 0, 1]

/-- an attempt at s -/
noncomputable def st (code text : Array Nat) (pc s : Nat) (o : Bool) (sn : Seen) : M :=
  { code, text, lim := text.size, start := s, lastStart := text.size, pc, pos := s, handed := s, outermost := o, marks := #[], frames := [{ wait := .nextStart, pc, pos := s, outermost := o }], weight := 1, seen := sn }

theorem search1 (text : Array Nat) (s : Nat) (h : s < text.size) : ∃ sn, forSearch code1 text 0 s text.size false = st code1 text 5 s true sn := by
  refine ⟨({} : Seen).add 14, ?_⟩
  have h1 : ¬ (s > text.size) := by lia
  have h2 : ¬ (text.size - s < 1) := by lia
  show (if decide (s > text.size) || decide (text.size - s < 1) then _ else _) = _
  rw [decide_eq_false h1, decide_eq_false h2]
  rfl
theorem search1_end (text : Array Nat) (s : Nat) (h : text.size ≤ s) : ∃ m, M.runFor 1 (forSearch code1 text 0 s text.size false) = m ∧ m.outcome = some .failed := by
  refine ⟨_, rfl, ?_⟩
  have h2 : text.size - s < 1 := by lia
  show (M.runFor 1 (if decide (s > text.size) || decide (text.size - s < 1) then _ else _)).outcome = _
  rw [decide_eq_true h2, Bool.or_true]
  rfl

theorem run_step {m m' : M} {n : Nat} (h : m.outcome.isSome = false) (e : m.step = m') : M.runFor (n + 1) m = M.runFor n m' := by
  show (if m.outcome.isSome then m else M.runFor n m.step) = _
  rw [h, e]; rfl
noncomputable def at1 (text : Array Nat) (s : Nat) : Bool := s == 0 || text.getD (s - 1) 0 == 10
/-- it says no, at the attempt's own frame -/
noncomputable def no (code text : Array Nat) (pc0 pc s p : Nat) (o : Bool) (sn : Seen) : M := { st code text pc0 s o sn with pc, pos := p, answer := some false }
theorem no_next (pc p s : Nat) (text : Array Nat) (o : Bool) (sn : Seen) (hs : s < text.size) : M.step (no code1 text 5 pc s p o sn) = st code1 text 5 (s + 1) false sn := by
  show (if s < text.size then _ else _) = _
  rw [if_pos hs]; rfl
theorem no_end (pc p s : Nat) (text : Array Nat) (o : Bool) (sn : Seen) (hs : ¬ s < text.size) : ∃ m, M.runFor 2 (no code1 text 5 pc s p o sn) = m ∧ m.outcome = some .failed := by
  have e : M.step (no code1 text 5 pc s p o sn) = { st code1 text 5 s o sn with answer := some false, frames := [], weight := 0 } := by
    show (if s < text.size then _ else _) = _
    rw [if_neg hs]; rfl
  exact ⟨_, run_step rfl e, rfl⟩
theorem step_at (text : Array Nat) (s : Nat) (o : Bool) (sn : Seen) : M.step (st code1 text 5 s o sn) = if at1 text s then { st code1 text 5 s o ((sn.add 6).add 44) with pc := 7 } else no code1 text 5 5 s s o ((sn.add 6).add 44) := rfl
theorem step_lit (text : Array Nat) (s : Nat) (o : Bool) (sn : Seen) : M.step { st code1 text 5 s o sn with pc := 7 } =
    if s ≥ text.size then no code1 text 5 7 s s o (sn.add 16) else match text.getD s 0 == 46 with | false => no code1 text 5 7 s s o (sn.add 16) | true => { st code1 text 5 s o (sn.add 16) with pc := 9, pos := s + 1 } := by
  show (if s ≥ text.size then _ else _) = _
  by_cases h : s ≥ text.size
  · rw [if_pos h, if_pos h]; rfl
  · rw [if_neg h, if_neg h]
    cases hc : text.getD s 0 == 46 <;> (show (match (Except.ok (text.getD s 0 == 46, sn.add 16) : Except String (Bool × Seen)) with | .error _ => _ | .ok (false, _) => _ | .ok (true, _) => _) = _; rw [hc]; rfl)
theorem step1a (text : Array Nat) (s : Nat) (o : Bool) (sn : Seen) (h : at1 text s = false) (hs : s < text.size) : ∃ sn', M.runFor 2 (st code1 text 5 s o sn) = st code1 text 5 (s + 1) false sn' := by
  refine ⟨(sn.add 6).add 44, (run_step rfl ((step_at text s o sn).trans (if_neg (by rw [h]; exact Bool.false_ne_true)))).trans ?_⟩
  exact run_step rfl (no_next _ _ _ _ _ _ hs)
theorem step1b (text : Array Nat) (s : Nat) (o : Bool) (sn : Seen) (h : at1 text s = true) (hc : (text.getD s 0 == 46) = false) (hs : s < text.size) : ∃ sn', M.runFor 3 (st code1 text 5 s o sn) = st code1 text 5 (s + 1) false sn' := by
  refine ⟨((sn.add 6).add 44).add 16, (run_step rfl ((step_at text s o sn).trans (if_pos h))).trans ?_⟩
  refine (run_step rfl ((step_lit text s o _).trans (by rw [if_neg (by lia), hc]))).trans ?_
  exact run_step rfl (no_next _ _ _ _ _ _ hs)
theorem step1c (text : Array Nat) (s : Nat) (o : Bool) (sn : Seen) (h : at1 text s = true) (hc : (text.getD s 0 == 46) = true) (hs : s < text.size) : ∃ m, M.runFor 5 (st code1 text 5 s o sn) = m ∧ m.outcome = some .matched ∧ m.start = s ∧ m.handed = s + 1 := by
  refine' ⟨_, (run_step rfl ((step_at text s o sn).trans (if_pos h))).trans ((run_step rfl ((step_lit text s o _).trans (by rw [if_neg (by lia), hc]))).trans rfl), ?_, ?_, ?_⟩
  all_goals (cases o <;> rfl)
theorem step1d (text : Array Nat) (s : Nat) (o : Bool) (sn : Seen) (hs : ¬ s < text.size) : ∃ m, M.runFor 4 (st code1 text 5 s o sn) = m ∧ m.outcome = some .failed := by
  by_cases h : at1 text s = true
  · obtain ⟨m, e, q⟩ := no_end 7 s s text o (((sn.add 6).add 44).add 16) hs
    exact ⟨m, (run_step rfl ((step_at text s o sn).trans (if_pos h))).trans ((run_step rfl ((step_lit text s o _).trans (by rw [if_pos (by lia)]))).trans e), q⟩
  · obtain ⟨m, e, q⟩ := no_end 5 s s text o ((sn.add 6).add 44) hs
    refine ⟨m, (run_step rfl ((step_at text s o sn).trans (by rw [if_neg h]))).trans ?_, q⟩
    rw [show (3 : Nat) = 2 + 1 from rfl, runFor_add, e]
    exact runFor_end (by rw [q]; rfl) _

/-- where the dot's pattern meets -/
noncomputable def hit1 (text : Array Nat) (s : Nat) : Bool := at1 text s && text.getD s 0 == 46
theorem find1 (text : Array Nat) (b : Nat) (hb : b < text.size) (h : hit1 text b = true) : ∀ (n s : Nat) (o : Bool) (sn : Seen), s + n = b → (∀ c, s ≤ c → c < b → hit1 text c = false) →
    ∃ k m, k ≤ 3 * n + 5 ∧ M.runFor k (st code1 text 5 s o sn) = m ∧ m.outcome = some .matched ∧ m.start = b ∧ m.handed = b + 1
  | 0, s, o, sn, e, _ => by
    have : s = b := by lia
    subst this
    unfold hit1 at h
    rw [Bool.and_eq_true] at h
    obtain ⟨m, q⟩ := step1c text s o sn h.1 h.2 hb
    exact ⟨5, m, by lia, q⟩
  | n + 1, s, o, sn, e, f => by
    have hs := f s (Nat.le_refl _) (by lia)
    have key : ∃ j sn', j ≤ 3 ∧ M.runFor j (st code1 text 5 s o sn) = st code1 text 5 (s + 1) false sn' := by
      unfold hit1 at hs
      cases ha : at1 text s with
      | false => obtain ⟨sn', q⟩ := step1a text s o sn ha (by lia); exact ⟨2, sn', by lia, q⟩
      | true => rw [ha, Bool.true_and] at hs; obtain ⟨sn', q⟩ := step1b text s o sn ha hs (by lia); exact ⟨3, sn', by lia, q⟩
    obtain ⟨j, sn', hj, ej⟩ := key
    obtain ⟨k, m, hk, ek, q⟩ := find1 text b hb h n (s + 1) false sn' (by lia) fun c h1 h2 => f c (by lia) h2
    exact ⟨j + k, m, by lia, by rw [runFor_add, ej, ek], q⟩
theorem fail1 (text : Array Nat) : ∀ (n s : Nat) (o : Bool) (sn : Seen), s + n = text.size → (∀ c, s ≤ c → c < text.size → hit1 text c = false) →
    ∃ k m, k ≤ 3 * n + 4 ∧ M.runFor k (st code1 text 5 s o sn) = m ∧ m.outcome = some .failed
  | 0, s, o, sn, e, _ => by
    obtain ⟨m, q⟩ := step1d text s o sn (by lia)
    exact ⟨4, m, by lia, q⟩
  | n + 1, s, o, sn, e, f => by
    have hs := f s (Nat.le_refl _) (by lia)
    have key : ∃ j sn', j ≤ 3 ∧ M.runFor j (st code1 text 5 s o sn) = st code1 text 5 (s + 1) false sn' := by
      unfold hit1 at hs
      cases ha : at1 text s with
      | false => obtain ⟨sn', q⟩ := step1a text s o sn ha (by lia); exact ⟨2, sn', by lia, q⟩
      | true => rw [ha, Bool.true_and] at hs; obtain ⟨sn', q⟩ := step1b text s o sn ha hs (by lia); exact ⟨3, sn', by lia, q⟩
    obtain ⟨j, sn', hj, ej⟩ := key
    obtain ⟨k, m, hk, ek, q⟩ := fail1 text n (s + 1) false sn' (by lia) fun c h1 h2 => f c (by lia) h2
    exact ⟨j + k, m, by lia, by rw [runFor_add, ej, ek], q⟩

/-! ## the second pattern: line ends -/
noncomputable def eol (c : Nat) : Bool := c == 10 || c == 13
noncomputable def wid (text : Array Nat) (b : Nat) : Nat := if text.getD b 0 == 13 && (decide (b + 1 < text.size) && text.getD (b + 1) 0 == 10) then 2 else 1
theorem set2 (c : Nat) (sn : Seen) : ∃ sn', inSet code2 c code2.size 5 true sn = .ok (eol c, sn') := by
  unfold eol
  cases h : c == 10 with
  | true => exact ⟨_, by show (if c == 10 then _ else _) = _; rw [h]; rfl⟩
  | false =>
    cases h' : c == 13 with
    | true => exact ⟨_, by show (if c == 10 then _ else if c == 13 then _ else _) = _; rw [h, h']; rfl⟩
    | false => exact ⟨_, by show (if c == 10 then _ else if c == 13 then _ else _) = _; rw [h, h']; rfl⟩
theorem adm2 (m : M) (hc : m.code = code2) (b : Nat) (hb : b < m.lim) (h : eol (m.text.getD b 0) = true) : ∀ (n s fuel : Nat) (sn : Seen), s + n = b → n < fuel → (∀ c, s ≤ c → c < b → eol (m.text.getD c 0) = false) →
    ∃ sn', M.admitted m fuel s sn = .ok (some b, sn')
  | 0, s, fuel + 1, sn, e, _, _ => by
    have : s = b := by lia
    subst this
    obtain ⟨sn', q⟩ := set2 (m.text.getD s 0) sn
    refine ⟨sn', ?_⟩
    show (if s ≥ m.lim then _ else match inSet m.code (m.text.getD s 0) m.code.size 5 true sn with | .ok (true, seen) => _ | .ok (false, seen) => _ | .error why => _) = _
    rw [if_neg (by lia), hc, q, h]
  | n + 1, s, fuel + 1, sn, e, hf, f => by
    obtain ⟨sn', q⟩ := set2 (m.text.getD s 0) sn
    obtain ⟨sn2, r⟩ := adm2 m hc b hb h n (s + 1) fuel sn' (by lia) (by lia) fun c h1 h2 => f c (by lia) h2
    refine ⟨sn2, ?_⟩
    show (if s ≥ m.lim then _ else match inSet m.code (m.text.getD s 0) m.code.size 5 true sn with | .ok (true, seen) => _ | .ok (false, seen) => M.admitted m fuel (s + 1) seen | .error why => _) = _
    rw [if_neg (by lia), hc, q, f s (Nat.le_refl _) (by lia)]
    exact r
theorem adm2_none (m : M) (hc : m.code = code2) : ∀ (n s fuel : Nat) (sn : Seen), s + n = m.lim → n < fuel → (∀ c, s ≤ c → c < m.lim → eol (m.text.getD c 0) = false) →
    ∃ sn', M.admitted m fuel s sn = .ok (none, sn')
  | 0, s, fuel + 1, sn, e, _, _ => ⟨sn, by show (if s ≥ m.lim then _ else _) = _; rw [if_pos (by lia)]⟩
  | n + 1, s, fuel + 1, sn, e, hf, f => by
    obtain ⟨sn', q⟩ := set2 (m.text.getD s 0) sn
    obtain ⟨sn2, r⟩ := adm2_none m hc n (s + 1) fuel sn' (by lia) (by lia) fun c h1 h2 => f c (by lia) h2
    refine ⟨sn2, ?_⟩
    show (if s ≥ m.lim then _ else match inSet m.code (m.text.getD s 0) m.code.size 5 true sn with | .ok (true, seen) => _ | .ok (false, seen) => M.admitted m fuel (s + 1) seen | .error why => _) = _
    rw [if_neg (by lia), hc, q, f s (Nat.le_refl _) (by lia)]
    exact r
/-- before the first attempt -/
noncomputable def pre2 (text : Array Nat) (s : Nat) : M := { code := code2, text, lim := text.size, start := s, lastStart := text.size, pc := 10, pos := s, handed := s, marks := #[], seen := ({} : Seen).add 14 }
theorem search2 (text : Array Nat) (s : Nat) (h : s < text.size) : forSearch code2 text 0 s text.size false = match M.admitted (pre2 text s) (text.size + 1 - s) s (({} : Seen).add 14) with
    | .ok (some b, sn) => st code2 text 10 b true sn
    | .ok (none, sn) => { pre2 text s with seen := sn, answer := some false }
    | .error why => (pre2 text s).stick why := by
  have h1 : ¬ (s > text.size) := by lia
  have h2 : ¬ (text.size - s < 1) := by lia
  show (if decide (s > text.size) || decide (text.size - s < 1) then _ else _) = _
  rw [decide_eq_false h1, decide_eq_false h2]
  show (match M.admitted (pre2 text s) (text.size + 1 - s) s (({} : Seen).add 14) with
    | .ok (some s, seen) => _ | .ok (none, seen) => _ | .error why => _) = _
  cases M.admitted (pre2 text s) (text.size + 1 - s) s (({} : Seen).add 14) with
  | error e => rfl
  | ok p => obtain ⟨o, sn⟩ := p; cases o <;> rfl
theorem search2_end (text : Array Nat) (s : Nat) (h : text.size ≤ s) : ∃ m, M.runFor 1 (forSearch code2 text 0 s text.size false) = m ∧ m.outcome = some .failed := by
  refine ⟨_, rfl, ?_⟩
  have h2 : text.size - s < 1 := by lia
  show (M.runFor 1 (if decide (s > text.size) || decide (text.size - s < 1) then _ else _)).outcome = _
  rw [decide_eq_true h2, Bool.or_true]
  rfl
theorem fail2 (text : Array Nat) (s : Nat) (f : ∀ c, s ≤ c → c < text.size → eol (text.getD c 0) = false) : ∃ m, M.runFor 1 (forSearch code2 text 0 s text.size false) = m ∧ m.outcome = some .failed := by
  by_cases h : s < text.size
  · obtain ⟨sn, q⟩ := adm2_none (pre2 text s) rfl (text.size - s) s (text.size + 1 - s) (({} : Seen).add 14) (by show s + (text.size - s) = text.size; lia) (by lia) f
    exact ⟨_, rfl, by rw [search2 text s h, q]; rfl⟩
  · exact search2_end text s (by lia)

/-- at a branch -/
noncomputable def br (text : Array Nat) (pc s p : Nat) (alt : Nat) (hd : Nat) (sn : Seen) : M := { st code2 text 10 s true sn with
  pc, pos := p, handed := hd, weight := 2, frames := { wait := .nextBranch, pc := alt, pos := s, outermost := true } :: (st code2 text 10 s true sn).frames }
noncomputable def brNo (text : Array Nat) (pc s p : Nat) (alt : Nat) (hd : Nat) (sn : Seen) : M := { br text pc s p alt hd sn with answer := some false }
theorem b_enter (text : Array Nat) (s : Nat) (sn : Seen) : M.step (st code2 text 10 s true sn) = br text 12 s s 11 s (sn.add 7) := rfl
theorem b_lit (c : Nat) (text : Array Nat) (pc s p alt hd : Nat) (sn : Seen) (hpc : pc < 36) (h16 : code2.getD pc 0 = 16) (hc : code2.getD (pc + 1) 0 = c) : M.step (br text pc s p alt hd sn) =
    if p ≥ text.size then brNo text pc s p alt hd (sn.add 16) else match text.getD p 0 == c with | false => brNo text pc s p alt hd (sn.add 16) | true => br text (pc + 2) s (p + 1) alt hd (sn.add 16) := by
  have e : M.step (br text pc s p alt hd sn) = M.exec (br text pc s p alt hd sn) := by
    show (if pc < 36 then _ else _) = _
    rw [if_pos hpc]
  rw [e]
  have e16 : M.word (br text pc s p alt hd sn) 0 = 16 := h16
  unfold M.exec
  rw [e16]
  show (if p ≥ text.size then _ else match accepts code2 pc (text.getD p 0) (sn.add 16) with | .error why => _ | .ok (false, seen) => _ | .ok (true, seen) => _) = _
  by_cases h : p ≥ text.size
  · rw [if_pos h, if_pos h]; rfl
  · rw [if_neg h, if_neg h]
    have ea : accepts code2 pc (text.getD p 0) (sn.add 16) = .ok (text.getD p 0 == c, sn.add 16) := by
      unfold accepts; rw [h16, hc]; rfl
    rw [ea]
    have ew : itemWidth code2 pc = 2 := by unfold itemWidth; rw [h16]; rfl
    cases text.getD p 0 == c
    · rfl
    · show ({ br text pc s p alt hd (sn.add 16) with pc := pc + itemWidth code2 pc, pos := p + 1 } : M) = _
      rw [ew]; rfl
theorem b_yes (c : Nat) (text : Array Nat) (pc s p alt hd : Nat) (sn : Seen) (hpc : pc < 36) (h16 : code2.getD pc 0 = 16) (hc : code2.getD (pc + 1) 0 = c) (hp : ¬ p ≥ text.size) (h : (text.getD p 0 == c) = true) : M.step (br text pc s p alt hd sn) = br text (pc + 2) s (p + 1) alt hd (sn.add 16) := by
  rw [b_lit c text pc s p alt hd sn hpc h16 hc, if_neg hp, h]
theorem b_nope (c : Nat) (text : Array Nat) (pc s p alt hd : Nat) (sn : Seen) (hpc : pc < 36) (h16 : code2.getD pc 0 = 16) (hc : code2.getD (pc + 1) 0 = c) (h : (decide (p < text.size) && text.getD p 0 == c) = false) : M.step (br text pc s p alt hd sn) = brNo text pc s p alt hd (sn.add 16) := by
  rw [b_lit c text pc s p alt hd sn hpc h16 hc]
  by_cases hp : p ≥ text.size
  · rw [if_pos hp]
  · rw [if_neg hp]
    rw [decide_eq_true (by lia), Bool.true_and] at h
    rw [h]
theorem b_no1 (text : Array Nat) (pc s p hd : Nat) (sn : Seen) : M.step (brNo text pc s p 11 hd sn) = br text 19 s s 18 s sn := rfl
theorem b_no2 (text : Array Nat) (pc s p hd : Nat) (sn : Seen) : M.step (brNo text pc s p 18 hd sn) = br text 24 s s 23 s sn := rfl
theorem b_j1 (text : Array Nat) (s p alt hd : Nat) (sn : Seen) : M.step (br text 16 s p alt hd sn) = br text 35 s p alt hd (sn.add 15) := rfl
theorem b_j2 (text : Array Nat) (s p alt hd : Nat) (sn : Seen) : M.step (br text 21 s p alt hd sn) = br text 35 s p alt hd (sn.add 15) := rfl
theorem b_j3 (text : Array Nat) (s p alt hd : Nat) (sn : Seen) : M.step (br text 32 s p alt hd sn) = br text 35 s p alt hd (sn.add 15) := rfl
theorem b_ok (text : Array Nat) (s p alt hd : Nat) (sn : Seen) : M.step (br text 35 s p alt hd sn) = { br text 35 s p alt p (sn.add 1) with answer := some true } := rfl
/-- a jump to the end, and out -/
theorem b_fin (text : Array Nat) (s p alt hd : Nat) (sn : Seen) : ∃ m, M.runFor 4 (br text 35 s p alt hd sn) = m ∧ m.outcome = some .matched ∧ m.start = s ∧ m.handed = p :=
  ⟨_, (run_step rfl (b_ok ..)).trans ((run_step rfl rfl).trans ((run_step rfl rfl).trans (run_step rfl rfl))), rfl, rfl, rfl⟩
theorem b_out (text : Array Nat) (pc s p alt hd : Nat) (sn : Seen) (hpc : pc = 16 ∨ pc = 21 ∨ pc = 32) : ∃ m, M.runFor 5 (br text pc s p alt hd sn) = m ∧ m.outcome = some .matched ∧ m.start = s ∧ m.handed = p := by
  obtain ⟨m, e, q⟩ := b_fin text s p alt hd (sn.add 15)
  rcases hpc with rfl | rfl | rfl
  · exact ⟨m, (run_step rfl (b_j1 ..)).trans e, q⟩
  · exact ⟨m, (run_step rfl (b_j2 ..)).trans e, q⟩
  · exact ⟨m, (run_step rfl (b_j3 ..)).trans e, q⟩
/-- the look-ahead -/
noncomputable def lk (text : Array Nat) (pc s p : Nat) (sn : Seen) (ans : Option Bool) : M := { br text pc s p 23 p sn with
  outermost := false, weight := 3, answer := ans, frames := { wait := .lookNot, pc := 26, pos := p, outermost := true } :: (br text pc s p 23 p sn).frames }
theorem l_enter (text : Array Nat) (s p hd : Nat) (sn : Seen) : M.step (br text 26 s p 23 hd sn) = lk text 29 s p (sn.add 5) none := rfl
theorem l_no (text : Array Nat) (s p : Nat) (sn : Seen) (h : (decide (p < text.size) && text.getD p 0 == 10) = false) : M.runFor 2 (lk text 29 s p sn none) = br text 32 s p 23 p (sn.add 16) := by
  have e : M.step (lk text 29 s p sn none) = lk text 29 s p (sn.add 16) (some false) := by
    show (if p ≥ text.size then _ else match (Except.ok (text.getD p 0 == 10, sn.add 16) : Except String (Bool × Seen)) with | .error why => _ | .ok (false, seen) => _ | .ok (true, seen) => _) = _
    by_cases hp : p ≥ text.size
    · rw [if_pos hp]; rfl
    · rw [if_neg hp]
      rw [decide_eq_true (by lia), Bool.true_and] at h
      rw [h]; rfl
  exact (run_step rfl e).trans (run_step rfl rfl)
theorem find2a (text : Array Nat) (b : Nat) (hb : b < text.size) (h : eol (text.getD b 0) = true) (sn : Seen) : ∃ k m, k ≤ 20 ∧ M.runFor k (st code2 text 10 b true sn) = m ∧ m.outcome = some .matched ∧ m.start = b ∧ m.handed = b + wid text b := by
  have h0 : ¬ b ≥ text.size := by lia
  unfold wid
  cases h13 : text.getD b 0 == 13 with
  | true =>
    have s1 : M.runFor 2 (st code2 text 10 b true sn) = br text 14 b (b + 1) 11 b ((sn.add 7).add 16) :=
      (run_step rfl (b_enter text b sn)).trans (run_step rfl (b_yes 13 text 12 b b 11 b _ (by decide) rfl rfl h0 h13))
    cases h2 : decide (b + 1 < text.size) && text.getD (b + 1) 0 == 10 with
    | true =>
      have h2' := h2
      rw [Bool.and_eq_true, decide_eq_true_eq] at h2'
      have s2 := b_yes 10 text 14 b (b + 1) 11 b ((sn.add 7).add 16) (by decide) rfl rfl (by lia) h2'.2
      obtain ⟨m, e, q⟩ := b_out text 16 b (b + 2) 11 b (((sn.add 7).add 16).add 16) (.inl rfl)
      refine ⟨2 + (5 + 1), m, by decide, ?_, q⟩
      rw [runFor_add, s1]
      exact (run_step rfl s2).trans e
    | false =>
      have s2 := b_nope 10 text 14 b (b + 1) 11 b ((sn.add 7).add 16) (by decide) rfl rfl h2
      have h10 : (text.getD b 0 == 10) = false := by rw [beq_iff_eq.mp h13]; rfl
      have s3 := b_nope 10 text 19 b b 18 b (((sn.add 7).add 16).add 16) (by decide) rfl rfl (by rw [h10, Bool.and_false])
      have s4 := b_yes 13 text 24 b b 23 b ((((sn.add 7).add 16).add 16).add 16) (by decide) rfl rfl h0 h13
      have s5 := l_no text b (b + 1) ((((((sn.add 7).add 16).add 16).add 16).add 16).add 5) h2
      obtain ⟨m, e, q⟩ := b_out text 32 b (b + 1) 23 (b + 1) (((((((sn.add 7).add 16).add 16).add 16).add 16).add 5).add 16) (.inr (.inr rfl))
      have s6 : M.runFor 6 (br text 14 b (b + 1) 11 b ((sn.add 7).add 16)) = lk text 29 b (b + 1) ((((((sn.add 7).add 16).add 16).add 16).add 16).add 5) none :=
        (run_step rfl s2).trans ((run_step rfl (b_no1 ..)).trans ((run_step rfl s3).trans ((run_step rfl (b_no2 ..)).trans ((run_step rfl s4).trans (run_step rfl (l_enter ..))))))
      refine ⟨2 + (6 + (2 + 5)), m, by decide, ?_, q⟩
      rw [runFor_add, s1, runFor_add, s6, runFor_add, s5, e]
  | false =>
    have h10 : (text.getD b 0 == 10) = true := by unfold eol at h; rw [h13, Bool.or_false] at h; exact h
    have s1 : M.runFor 2 (st code2 text 10 b true sn) = brNo text 12 b b 11 b ((sn.add 7).add 16) :=
      (run_step rfl (b_enter text b sn)).trans (run_step rfl (b_nope 13 text 12 b b 11 b _ (by decide) rfl rfl (by rw [h13, Bool.and_false])))
    have s2 := b_yes 10 text 19 b b 18 b ((sn.add 7).add 16) (by decide) rfl rfl h0 h10
    obtain ⟨m, e, q⟩ := b_out text 21 b (b + 1) 18 b (((sn.add 7).add 16).add 16) (.inr (.inl rfl))
    refine ⟨2 + (5 + 1 + 1), m, by decide, ?_, q⟩
    rw [runFor_add, s1]
    exact (run_step rfl (b_no1 ..)).trans ((run_step rfl s2).trans e)
theorem find2 (text : Array Nat) (s b : Nat) (hs : s ≤ b) (hb : b < text.size) (h : eol (text.getD b 0) = true) (f : ∀ c, s ≤ c → c < b → eol (text.getD c 0) = false) :
    ∃ k m, k ≤ 20 ∧ M.runFor k (forSearch code2 text 0 s text.size false) = m ∧ m.outcome = some .matched ∧ m.start = b ∧ m.handed = b + wid text b := by
  obtain ⟨sn, q⟩ := adm2 (pre2 text s) rfl b hb h (b - s) s (text.size + 1 - s) (({} : Seen).add 14) (by lia) (by lia) f
  rw [search2 text s (by lia), q]
  obtain ⟨k, m, hk, r⟩ := find2a text b hb h sn
  exact ⟨k, m, by lia, r⟩
end Mine
end
section
open PySem
set_option Elab.async false
set_option maxRecDepth 100000
set_option linter.unusedVariables false
namespace Mine
open PySem.Builtin PySem.Builtin.Re

theorem slot_pat_sub : Slot "re.Pattern" "sub" "re.Pattern.sub" :=
  .of (owner := "re.Pattern") (n := "sub") (by rw [typeLookup_type, builtinLookup_eq_fast]; kernel_rfl) (by decide +kernel) (by decide +kernel) (by decide +kernel)
    (by first | exact .inl (by decide +kernel) | exact .inr (by decide +kernel)) (by rw [isSubtype_type]; kernel_rfl)
theorem pa_pat : PlainAttrs "re.Pattern" :=
  ⟨⟨"object.__getattribute__", by rw [typeLookup_type, builtinLookup_eq_fast]; kernel_rfl, by decide +kernel⟩, by rw [typeLookup_type, builtinLookup_eq_fast]; kernel_rfl⟩
theorem ty_pat_sub : typeOf (.builtin "re.Pattern.sub") = pure (.type "method_descriptor") := by show builtinType _ = _; rw [builtinType_eq_fast]; kernel_rfl
theorem entry_pat_sub : entryFor table "re.Pattern.sub" = some Builtin.«re.Pattern.sub» := entryFor_of_tree (by kernel_rfl)
theorem entry_pat_loop : entryFor table "re.Pattern.sub.loop" = some Builtin.«re.Pattern.sub.loop» := entryFor_of_tree (by kernel_rfl)
theorem plain_pat_loop : plainId "re.Pattern.sub.loop" = true := by decide +kernel
theorem owner_pat : Manifest.owners.lookup (String.ofList ['n', 'r', 'e', 't', 't', 'a', 'P', '.', 'e', 'r'].reverse) = some Manifest.sig_re_Pattern := by kernel_rfl
theorem args_pat_sub (a b c : Value) : argsOk "re.Pattern.sub" ⟨[a, b, c], []⟩ := by
  unfold argsOk; rw [signature?_of (id := "re.Pattern.sub") (n := ['b', 'u', 's']) (o := ['n', 'r', 'e', 't', 't', 'a', 'P', '.', 'e', 'r']) (by kernel_rfl) owner_pat]; kernel_rfl
theorem nocall_str : typeLookup (.type "str") "__call__" = pure none := by rw [typeLookup_type, builtinLookup_eq_fast]; kernel_rfl

section
variable {M : Model} {A : Around} {E : Value → Shared → Prop} {s : Shared}

theorem wp_drive {Q : Sre.M → Shared → Prop} {m' : Sre.M} (ho : m'.outcome.isSome = true) (q : Q m' s) : ∀ (turns k : Nat) (m : Sre.M), Sre.M.runFor k m = m' → k ≤ 4 * turns → 0 < turns → wpAny M A (reDrive turns m) Q E s
  | 0, _, _, _, _, h => absurd h (Nat.lt_irrefl _)
  | n + 1, k, m, e, hk, _ => by
    show wpAny M A (if (Sre.M.runFor 4 m).outcome.isSome then pure (Sre.M.runFor 4 m) else do rule "sre.turn"; reDrive n (Sre.M.runFor 4 m)) Q E s
    by_cases h4 : (Sre.M.runFor 4 m).outcome.isSome = true
    · rw [if_pos h4]
      have : Sre.M.runFor 4 m = m' := by
        rcases Nat.le_total k 4 with h | h
        · obtain ⟨j, hj⟩ : ∃ j, 4 = k + j := ⟨4 - k, by lia⟩
          rw [hj, runFor_add, e, runFor_end ho]
        · obtain ⟨j, rfl⟩ : ∃ j, k = 4 + j := ⟨k - 4, by lia⟩
          rw [runFor_add, runFor_end h4] at e; exact e
      rw [this]; exact wpAny_pure q
    · rw [if_neg h4]
      have hk4 : 4 < k := by
        rcases Nat.lt_or_ge 4 k with h | h
        · exact h
        · refine absurd ?_ h4
          obtain ⟨j, hj⟩ : ∃ j, 4 = k + j := ⟨4 - k, by lia⟩
          rw [hj, runFor_add, e, runFor_end ho]; exact ho
      obtain ⟨j, rfl⟩ : ∃ j, k = 4 + j := ⟨k - 4, by lia⟩
      rw [runFor_add] at e
      exact wpAny_bind (wpAny_rule (wp_drive ho q n j _ e (by lia) (by lia)))

theorem wp_forSkip {α : Type} {f : α → PUnit → Sem (ForInStep PUnit)} (hf : ∀ x (Q : ForInStep PUnit → Shared → Prop), Q (.yield ⟨⟩) s → wpAny M A (f x ⟨⟩) Q E s) {Q : PUnit → Shared → Prop} (q : Q ⟨⟩ s) :
    ∀ l : List α, wpAny M A (forIn l ⟨⟩ f) Q E s
  | [] => by rw [List.forIn_nil]; exact wpAny_pure q
  | x :: l => by
    rw [List.forIn_cons]
    exact wpAny_bind (hf x _ (wp_forSkip hf q l))

theorem wp_toEnd {m m' : Sre.M} {k : Nat} {Q : Option Sre.M → Shared → Prop} (e : Sre.M.runFor k m = m') (hk : k ≤ 4 * 2 ^ 64) (r : (m'.outcome = some .matched ∧ Q (some m') s) ∨ (m'.outcome = some .failed ∧ Q none s)) :
    wpAny M A (reRunToEnd m) Q E s := by
  unfold reRunToEnd
  refine wpAny_bind (wp_drive (m' := m') (by rcases r with ⟨o, _⟩ | ⟨o, _⟩ <;> (rw [o]; rfl)) ?_ (2 ^ 64) k m e hk (Nat.two_pow_pos _))
  refine wpAny_bind (wp_forSkip (fun i Q q => ?_) ?_ _)
  · by_cases h : m'.seen.has i = true
    · simp only [h, if_true]
      exact wpAny_bind (wpAny_rule (wpAny_pure q))
    · simp only [h]
      exact wpAny_pure q
  · rcases r with ⟨o, q⟩ | ⟨o, q⟩ <;> (rw [o]; exact wpAny_pure q)
end

structure IsPat (h : Heap) (a : Addr) (code : Array Nat) : Prop where
  ex : ∃ o fs c oc xs n, h.get? a = some o ∧ o.cls = .type "re.Pattern" ∧ o.dict = none ∧ o.data = .fields fs ∧ fs.getD 5 .none = .ref c ∧ reRawNat (fs.getD 6 .none) = 0 ∧ reRawNat (fs.getD 2 .none) = 0 ∧
    h.get? c = some oc ∧ oc.data = .seq xs n ∧ (xs.map reRawOf).map (·.toNat) = code ∧ xs.isEmpty = false
theorem IsPat.sub {h h' a code} (k : Sub h h') (x : IsPat h a code) : IsPat h' a code := by
  obtain ⟨o, fs, c, oc, xs, n, e, x1, x2, x3, x4, x5, x6, e', r⟩ := x.ex
  exact ⟨o, fs, c, oc, xs, n, k _ _ e, x1, x2, x3, x4, x5, x6, k _ _ e', r⟩

section
variable {M : Model} {A : Around} {E : Value → Shared → Prop} {s : Shared}
theorem wp_target {a : Addr} {code : Array Nat} {x : Str} {t : Tok} {Q : ReTarget → Shared → Prop} (p : IsPat s.heap a code) (q : Q ⟨.ref a, .str x t, code, x.cps, 0, 0, 0, x.cps.size⟩ s) :
    wpAny M A (reWholeTarget (.ref a) (.str x t)) Q E s := by
  obtain ⟨o, fs, c, oc, xs, n, e, x1, x2, x3, x4, x5, x6, e', x7, x8, _⟩ := p.ex
  unfold reWholeTarget
  refine wpAny_bind (wpAny_fieldsOf e x3 ?_)
  refine wpAny_bind (m := reTextOf (.str x t)) (wpAny_pure ?_)
  show wpAny M A (if (reRawNat (fs.getD 6 .none) == 0 && (0 : Nat) == 1) = true then _ else _) _ _ _
  rw [x5]
  show wpAny M A (do let __do_lift ← reRawItems (fs.getD 5 .none); pure _) _ _ _
  rw [x4]
  refine wpAny_bind (wpAny_bind (wpAny_seqItems e' x7 (wpAny_pure ?_)))
  refine wpAny_pure ?_
  rw [x6]
  show Q ⟨.ref a, .str x t, (xs.map reRawOf).map (·.toNat), x.cps, 0, 0, 0, x.cps.size⟩ s
  rw [x8]; exact q
end

/-- what a search finds -/
noncomputable def Nxt (code text : Array Nat) (f : Nat → Option (Nat × Nat)) : Prop := ∀ st, match f st with
  | some (b, e) => st ≤ b ∧ b < e ∧ e ≤ text.size ∧ ∃ k m, k ≤ 4 * 2 ^ 64 ∧ Sre.M.runFor k (Sre.forSearch code text 0 st text.size false) = m ∧ m.outcome = some .matched ∧ m.start = b ∧ m.handed = e
  | none => ∃ k m, k ≤ 4 * 2 ^ 64 ∧ Sre.M.runFor k (Sre.forSearch code text 0 st text.size false) = m ∧ m.outcome = some .failed

theorem isList_push {h : Heap} {L : Addr} {xs : Array Value} {v : Value} (x : h.IsList L xs) : (h.update L (Obj.mapSeq (·.push v))).IsList L (xs.push v) := by
  obtain ⟨o, e, c, n, d⟩ := x
  obtain ⟨oc, od, odt, osl⟩ := o
  dsimp only at c d; subst c d
  exact ⟨_, Heap.get?_update_self _ e rfl, rfl, _, rfl⟩
structure LSt (s₀ : Shared) (L : Addr) (l : List (Str × Tok)) (s : Shared) : Prop where
  like : Like s₀ s
  keep : ∀ b o, b ≠ L → s₀.heap.get? b = some o → s.heap.get? b = some o
  list : s.heap.IsList L (strValues l).toArray
theorem strValues_push (l : List (Str × Tok)) (x : Str) (t : Tok) : (strValues l).toArray.push (.str x t) = (strValues (l ++ [(x, t)])).toArray := by simp [strValues]
theorem LSt.tok {s₀ L l s} (x : LSt s₀ L l s) (k : Nat) : LSt s₀ L l { s with toks := k } := ⟨x.like.trans ⟨_, _, rfl⟩, x.keep, x.list⟩
section
variable {M : Model} {A : Around} {E : Value → Shared → Prop} {s s₀ : Shared}
theorem wp_push {L : Addr} {l : List (Str × Tok)} {x : Str} {t : Tok} {Q : Unit → Shared → Prop} (st : LSt s₀ L l s) (hl : l.length + 1 ≤ sizeLine)
    (q : ∀ s', LSt s₀ L (l ++ [(x, t)]) s' → Q () s') : wpAny M A (updateSeq L (·.push (.str x t))) Q E s := by
  obtain ⟨o, e, c, n, d⟩ := id st.list
  refine wpAny_updateSeq e d (q _ ⟨st.like.trans ⟨_, s.toks, rfl⟩, fun b o hb e => ?_, ?_⟩) ?_ ?_
  · exact (Heap.get?_update_other _ _ (Ne.symm hb)).trans (st.keep b o hb e)
  · rw [← strValues_push]; exact isList_push st.list
  · simp [strValues]; lia
  · simp [strValues]; lia
theorem wp_slice {text : Array Nat} {b e : Nat} {Q : Value → Shared → Prop} (hs : text.size ≤ sizeLine) (q : ∀ t k, Q (.str ⟨text.extract b e⟩ t) { s with toks := k }) : wpAny M A (reSlice text 0 b e) Q E s := by
  show wpAny M A (mkStr ⟨text.extract b e⟩) Q E s
  exact wpAny_mkStr (q _ _) (by show (text.extract b e).size ≤ _; rw [Array.size_extract]; lia)
end
/-- the pieces -/
noncomputable def pieces (f : Nat → Option (Nat × Nat)) (text : Array Nat) (r : Str) : Nat → Nat → List Str
  | 0, _ => []
  | n + 1, d => match f d with
    | none => if d < text.size then [⟨text.extract d text.size⟩] else []
    | some (b, e) => (if d < b then [⟨text.extract d b⟩] else []) ++ r :: pieces f text r n e
section
variable {prog : Program} {w : World} {A : Around} {s s₀ : Shared} {R : Result → Shared → Prop}
theorem sub_loop {a L : Addr} {code : Array Nat} {x r : Str} {t u : Tok} {f : Nat → Option (Nat × Nat)} (N : Nxt code x.cps f) (hs : x.cps.size ≤ sizeLine) (p : IsPat s₀.heap a code) (hL : s₀.heap.get? L = none) : ∀ (fuel d n : Nat) (l : List (Str × Tok)) (s : Shared), x.cps.size - d < fuel → LSt s₀ L l s → l.length + 2 * fuel ≤ sizeLine →
      JoinOk ⟨#[]⟩ (l.map (·.1) ++ pieces f x.cps r fuel d) = true →
      (∀ s' l' tk, LSt s₀ L l' s' → R (.ok (.ret (.str (Txt.join ⟨#[]⟩ (l.map (·.1) ++ pieces f x.cps r fuel d)) tk))) s') →
      codeAny (model prog w) A (.builtin "re.Pattern.sub.loop" ⟨[.ref a, .str x t, .str r u, rawInt 0, rawInt 0, rawInt n, rawInt d, rawInt d, .bool false, .ref L, .bool false], []⟩) R s
  | 0, d, n, l, s, h, _, _, _, _ => absurd h (Nat.not_lt_zero _)
  | fuel + 1, d, n, l, s, hf, st, hl, hj, q => by
    refine codeAny_builtin entry_pat_loop ?_
    rw [Around.under_plainId plain_pat_loop]
    unfold Builtin.«re.Pattern.sub.loop»
    have pp : IsPat s.heap a code := by
      obtain ⟨o, fs, c, oc, xs, n, e, x1, x2, x3, x4, x5, x6, e', r⟩ := p.ex
      exact ⟨o, fs, c, oc, xs, n, st.keep _ _ (by rintro rfl; rw [hL] at e; cases e) e, x1, x2, x3, x4, x5, x6, st.keep _ _ (by rintro rfl; rw [hL] at e'; cases e') e', r⟩
    refine wpAny_bind (wp_target pp ?_)
    refine wpAny_bind (m := reLiteralCannotBeTurned (.str r u)) (wpAny_pure ?_)
    have hN := N d
    have hsz : ∀ (k : Nat), (({ s with toks := k } : Shared).heap) = s.heap := fun _ => rfl
    cases hfd : f d with
    | none =>
      rw [hfd] at hN
      obtain ⟨k, m, hk, e, ho⟩ := hN
      refine wpAny_bind (m := reNextFound _ _ _) (wp_toEnd (M := model prog w) e hk (.inr ⟨ho, ?_⟩))
      have hpc : pieces f x.cps r (fuel + 1) d = if d < x.cps.size then [⟨x.cps.extract d x.cps.size⟩] else [] := by
        show (match f d with | none => _ | some (b, e) => _) = _
        rw [hfd]
      have rest : ∀ l' s', LSt s₀ L l' s' → l'.map (·.1) = l.map (·.1) ++ pieces f x.cps r (fuel + 1) d → wpAny (model prog w) A.in1
          (do let joiner ← reSlice x.cps 0 0 0
              let text ← if ((← seqItems? (.ref L)).getD #[]).isEmpty then pure joiner else call (.builtin (if (0 : Nat) == 0 then "str.join" else "bytes.join")) [joiner, .ref L]
              if false then ret (← holding [text] do newTuple [text, ← mkInt n]) else ret text)
          (fun fin s' => match fin with | .done f => R (.ok f) s' | .again c' => c'.quiet = true ∧ codeAny (model prog w) A c' R s') (fun e s' => R (.error e) s') s' := fun l' s' st' hl' => by
        refine wpAny_bind (wp_slice hs fun t' k' => ?_)
        have ex : (⟨x.cps.extract 0 0⟩ : Str) = ⟨#[]⟩ := by simp
        rw [ex]
        obtain ⟨oL, eL, cL, nL, dL⟩ := id st'.list
        refine wpAny_bind (wpAny_seqItems eL dL ?_)
        have q' := fun s'' tk st'' => q s'' l' tk st''
        rw [← hl'] at q' hj
        cases hem : ((some (strValues l').toArray).getD #[]).isEmpty with
        | true =>
          have : l' = [] := by
            cases l' with
            | nil => rfl
            | cons _ _ => simp [strValues] at hem
          subst this
          simp only [if_true]
          refine wpAny_bind (wpAny_pure ?_)
          exact wpAny_pure (q' _ _ (st'.tok _))
        | false =>
          simp only [Bool.false_eq_true, if_false]
          refine wpAny_bind (SC.join (texts := l'.map (·.1)) st'.list rfl hj fun t'' k'' => ?_)
          exact wpAny_pure (q' _ _ ((st'.tok _).tok _))
      by_cases hd : d < x.cps.size
      · refine wpAny_ite ?_
        rw [if_pos (show (d : Int).toNat < _ from hd)]
        refine wpAny_bind (wp_slice hs fun t' k' => ?_)
        refine wpAny_bind (wp_push (st.tok k') (by lia) fun s' st' => ?_)
        exact rest _ _ st' (by rw [hpc, if_pos hd]; simp)
      · refine wpAny_ite ?_
        rw [if_neg (show ¬ (d : Int).toNat < _ from hd)]
        exact rest _ _ st (by rw [hpc, if_neg hd]; simp)
    | some be =>
      obtain ⟨b, e⟩ := be
      rw [hfd] at hN
      obtain ⟨h1, h2, h3, k, m, hk, er, ho, hms, hmh⟩ := hN
      refine wpAny_bind (m := reNextFound _ _ _) (wp_toEnd (M := model prog w) er hk (.inl ⟨ho, ?_⟩))
      have hpc : pieces f x.cps r (fuel + 1) d = (if d < b then [⟨x.cps.extract d b⟩] else []) ++ r :: pieces f x.cps r fuel e := by
        show (match f d with | none => _ | some (b, e) => _) = _
        rw [hfd]
      have rest : ∀ l' s', LSt s₀ L l' s' → l'.map (·.1) = l.map (·.1) ++ (if d < b then [⟨x.cps.extract d b⟩] else []) → l'.length ≤ l.length + 1 → wpAny (model prog w) A.in1
          (do updateSeq L (·.push (.str r u))
              again (.builtin "re.Pattern.sub.loop" ⟨[.ref a, .str x t, .str r u, rawInt 0, rawInt 0, rawInt (n + 1), rawInt m.handed, rawInt m.handed, .bool (m.handed == m.start), .ref L, .bool false], []⟩))
          (fun fin s' => match fin with | .done f => R (.ok f) s' | .again c' => c'.quiet = true ∧ codeAny (model prog w) A c' R s') (fun e s' => R (.error e) s') s' := fun l' s' st' hl' hll => by
        refine wpAny_bind (wp_push st' (by lia) fun s'' st'' => ?_)
        refine wpAny_pure ⟨plainId_quiet plain_pat_loop _, ?_⟩
        have hb : (m.handed == m.start) = false := by rw [hmh, hms]; simp; lia
        rw [hb, hmh]
        have hm : (l' ++ [(r, u)]).map (·.1) ++ pieces f x.cps r fuel e = l.map (·.1) ++ pieces f x.cps r (fuel + 1) d := by rw [hpc, List.map_append, hl']; simp
        refine sub_loop N hs p hL fuel e (n + 1) (l' ++ [(r, u)]) s'' (by lia) st'' (by rw [List.length_append]; simp; lia) (by rw [hm]; exact hj) fun s3 l3 tk st3 => ?_
        rw [hm]; exact q s3 l3 tk st3
      by_cases hd : d < b
      · refine wpAny_ite ?_
        rw [if_pos (show (d : Int).toNat < m.start by rw [hms]; exact hd)]
        refine wpAny_bind (wp_slice hs fun t' k' => ?_)
        refine wpAny_bind (wp_push (st.tok k') (by lia) fun s' st' => ?_)
        exact rest _ _ st' (by rw [if_pos hd, hms]; simp) (by rw [List.length_append]; exact Nat.le_refl _)
      · refine wpAny_ite ?_
        rw [if_neg (show ¬ (d : Int).toNat < m.start by rw [hms]; exact hd)]
        exact rest _ _ st (by rw [if_neg hd]; simp) (by lia)
end

section
variable {prog : Program} {w : World} {A : Around} {s : Shared} {E : Value → Shared → Prop}
theorem named_sub (r x : Value) : reNamed "re.Pattern.sub" "sub" ["repl", "string", "count"] 2 [r, x] [] = pure [some r, some x, none] := rfl
theorem call_sub {a : Addr} {code : Array Nat} {x r : Str} {t u : Tok} {f : Nat → Option (Nat × Nat)} {Q : Value → Shared → Prop} (N : Nxt code x.cps f) (hs : x.cps.size + 1 < 8388608) (p : IsPat s.heap a code) (h92 : r.cps.contains 92 = false)
    (hj : JoinOk ⟨#[]⟩ (pieces f x.cps r (x.cps.size + 1) 0) = true)
    (q : ∀ s' tk, Keeps s s' → Q (.str (Txt.join ⟨#[]⟩ (pieces f x.cps r (x.cps.size + 1) 0)) tk) s') : wpAny (model prog w) A (call (.builtin "re.Pattern.sub") [.ref a, .str r u, .str x t]) Q E s := by
  have tyA : s.TypeIs (.ref a) "re.Pattern" := by
    obtain ⟨o, fs, c, oc, xs, n, e, x1, _⟩ := p.ex
    exact ⟨o, e, x1⟩
  refine call_meetsIn (S := fun A R s' => s' = s ∧ ∀ s' tk, Keeps s s' → R (.ok (.ret (.str (Txt.join ⟨#[]⟩ (pieces f x.cps r (x.cps.size + 1) 0)) tk))) s') slot_pat_sub tyA entry_pat_sub (args_pat_sub _ _ _) ?_ ⟨rfl, q⟩
  intro A R s₁ ⟨es, q⟩
  subst es
  unfold Builtin.«re.Pattern.sub» reSubstitute
  dsimp only
  rw [named_sub]
  refine wpAny_bind (wpAny_pure ?_)
  refine wpAny_bind (wpAny_pure ?_)
  refine wpAny_bind (wpAny_specialOf (typeIs_str _ _ _) nocall_str ?_)
  refine wpAny_bind (m := asStr? _) (wpAny_pure ?_)
  dsimp only
  rw [h92]
  refine wpAny_bind (wpAny_pure ?_)
  refine wpAny_bind (m := (pure (Value.str r u, (0 : Int)) : Sem _)) (wpAny_pure ?_)
  refine wpAny_bind (wpAny_holding (wp_target p ?_))
  refine wpAny_bind (wpAny_newList ?_)
  refine wpAny_pure ⟨plainId_quiet plain_pat_loop _, ?_⟩
  have hL : s₁.heap.get? s₁.heap.objs.size = none := by
    cases e : s₁.heap.get? s₁.heap.objs.size with
    | none => rfl
    | some o => exact absurd (Heap.lt_size e) (Nat.lt_irrefl _)
  refine sub_loop (s₀ := s₁) N (Nat.le_trans (Nat.le_of_lt (Nat.lt_of_succ_lt hs)) (by decide)) p hL (x.cps.size + 1) 0 0 [] _ (by lia) ⟨⟨_, s₁.toks, rfl⟩, fun b o _ e => Heap.get?_push_of_some _ e, _, Heap.get?_push_size _ rfl, rfl, 0, rfl⟩ ?_ hj fun s' l' tk st => ?_
  · show 0 + 2 * (x.cps.size + 1) ≤ 16777216
    lia
  · obtain ⟨h', tk', e⟩ := st.like
    exact q s' tk ⟨h', tk', e, fun b o eb => by have := st.keep b o (by rintro rfl; rw [hL] at eb; cases eb) eb; rw [e] at this; exact this⟩
end
end Mine
end
section
open PySem
set_option Elab.async false
set_option maxRecDepth 100000
set_option linter.unusedVariables false
namespace Mine
open PySem.Builtin PySem.Builtin.Str

noncomputable def firstHit (p : Nat → Bool) : Nat → Nat → Option Nat
  | 0, _ => none
  | n + 1, s => if p s then some s else firstHit p n (s + 1)
theorem firstHit_some {p : Nat → Bool} : ∀ {n s b}, firstHit p n s = some b → s ≤ b ∧ b < s + n ∧ p b = true ∧ ∀ c, s ≤ c → c < b → p c = false
  | 0, s, b, h => by cases h
  | n + 1, s, b, h => by
    unfold firstHit at h
    by_cases hp : p s = true
    · rw [if_pos hp] at h; cases h
      exact ⟨Nat.le_refl _, by lia, hp, fun c h1 h2 => absurd h2 (by lia)⟩
    · rw [if_neg hp] at h
      obtain ⟨a1, a2, a3, a4⟩ := firstHit_some h
      refine ⟨by lia, by lia, a3, fun c h1 h2 => ?_⟩
      by_cases hc : c = s
      · subst hc; simpa using hp
      · exact a4 c (by lia) h2
theorem firstHit_none {p : Nat → Bool} : ∀ {n s}, firstHit p n s = none → ∀ c, s ≤ c → c < s + n → p c = false
  | 0, s, h, c, h1, h2 => absurd h2 (by lia)
  | n + 1, s, h, c, h1, h2 => by
    unfold firstHit at h
    by_cases hp : p s = true
    · rw [if_pos hp] at h; cases h
    · rw [if_neg hp] at h
      by_cases hc : c = s
      · subst hc; simpa using hp
      · exact firstHit_none h c (by lia) (by lia)

noncomputable def f1 (text : Array Nat) (s : Nat) : Option (Nat × Nat) := (firstHit (hit1 text) (text.size - s) s).map fun b => (b, b + 1)
noncomputable def f2 (text : Array Nat) (s : Nat) : Option (Nat × Nat) := (firstHit (fun c => eol (text.getD c 0)) (text.size - s) s).map fun b => (b, b + wid text b)
theorem wid_pos (text : Array Nat) (b : Nat) : 0 < wid text b := by unfold wid; split <;> lia
theorem wid_fits (text : Array Nat) (b : Nat) (h : b < text.size) : b + wid text b ≤ text.size := by
  unfold wid
  by_cases q : (text.getD b 0 == 13 && (decide (b + 1 < text.size) && text.getD (b + 1) 0 == 10)) = true
  · rw [if_pos q]
    rw [Bool.and_eq_true, Bool.and_eq_true, decide_eq_true_eq] at q
    lia
  · rw [if_neg q]; lia
theorem nxt1 (text : Array Nat) (hs : text.size < 2 ^ 24) : Nxt code1 text (f1 text) := fun s => by
  unfold f1
  cases h : firstHit (hit1 text) (text.size - s) s with
  | none =>
    have f := firstHit_none h
    show ∃ k m, _
    by_cases hlt : s < text.size
    · obtain ⟨sn, e⟩ := search1 text s hlt
      obtain ⟨k, m, hk, er, ho⟩ := fail1 text (text.size - s) s true sn (by lia) fun c h1 h2 => f c h1 (by lia)
      exact ⟨k, m, by lia, by rw [e]; exact er, ho⟩
    · obtain ⟨m, e, ho⟩ := search1_end text s (by lia)
      exact ⟨1, m, by lia, e, ho⟩
  | some b =>
    obtain ⟨h1, h2, h3, h4⟩ := firstHit_some h
    obtain ⟨sn, e⟩ := search1 text s (by lia)
    obtain ⟨k, m, hk, er, ho, hms, hmh⟩ := find1 text b (by lia) h3 (b - s) s true sn (by lia) h4
    exact ⟨h1, Nat.lt_succ_self _, by lia, k, m, by lia, by rw [e]; exact er, ho, hms, hmh⟩
theorem nxt2 (text : Array Nat) : Nxt code2 text (f2 text) := fun s => by
  unfold f2
  cases h : firstHit (fun c => eol (text.getD c 0)) (text.size - s) s with
  | none =>
    have f := firstHit_none h
    show ∃ k m, _
    obtain ⟨m, e, ho⟩ := fail2 text s fun c h1 h2 => f c h1 (by lia)
    exact ⟨1, m, by lia, e, ho⟩
  | some b =>
    obtain ⟨h1, h2, h3, h4⟩ := firstHit_some h
    obtain ⟨k, m, hk, er, ho, hms, hmh⟩ := find2 text s b h1 (by lia) h3 h4
    have := wid_pos text b
    exact ⟨h1, by show b < b + wid text b; lia, wid_fits text b (by lia), k, m, by lia, er, ho, hms, hmh⟩

/-! ## what the two patterns do -/
noncomputable def crlf : Bool → List Nat → List Nat
  | _, [] => []
  | p, c :: r => if c == 13 then 13 :: 10 :: crlf true r else if c == 10 then (if p then crlf false r else 13 :: 10 :: crlf false r) else c :: crlf false r
noncomputable def dots : Bool → List Nat → List Nat
  | _, [] => []
  | b, c :: r => (if b && c == 46 then [46, 46] else [c]) ++ dots (c == 10) r
noncomputable abbrev flat (l : List Str) : List Nat := l.flatMap (·.cps.toList)
theorem extract_toList (t : Array Nat) (a b : Nat) : (t.extract a b).toList = (t.toList.drop a).take (b - a) := by
  simp [Array.toList_extract]
theorem flat_slice (t : Array Nat) (a b : Nat) (h : a ≤ b) : flat (if a < b then [(⟨t.extract a b⟩ : Str)] else []) = (t.toList.drop a).take (b - a) := by
  by_cases q : a < b
  · rw [if_pos q]; simp [flat]
  · rw [if_neg q, show b - a = 0 by lia]; simp [flat]
theorem drop_cons (t : Array Nat) (d : Nat) (h : d < t.size) : t.toList.drop d = t.getD d 0 :: t.toList.drop (d + 1) := by
  have e : t.getD d 0 = t.toList[d]'(by simpa using h) := by simp [Array.getD, h]
  rw [e]; exact List.drop_eq_getElem_cons _
theorem drop_split (l : List Nat) (d b : Nat) (h : d ≤ b) : l.drop d = (l.drop d).take (b - d) ++ l.drop b := by
  have := (List.take_append_drop (b - d) (l.drop d)).symm
  rw [List.drop_drop, show d + (b - d) = b by lia] at this
  exact this
theorem crlf_pre : ∀ (p r : List Nat), (∀ c ∈ p, eol c = false) → crlf false (p ++ r) = p ++ crlf false r
  | [], r, _ => rfl
  | c :: p, r, h => by
    have hc := h c (.head _)
    unfold eol at hc
    rw [Bool.or_eq_false_iff] at hc
    show (if c == 13 then _ else if c == 10 then _ else c :: crlf false (p ++ r)) = _
    rw [hc.1, hc.2, crlf_pre p r fun c hc => h c (.tail _ hc)]
    rfl
theorem crlf_true (c : Nat) (r : List Nat) (h : (c == 10) = false) : crlf true (c :: r) = crlf false (c :: r) := by
  show (if c == 13 then _ else if c == 10 then _ else _) = (if c == 13 then _ else if c == 10 then _ else _)
  rw [h]; rfl
theorem crlf_hit (t : Array Nat) (b : Nat) (hb : b < t.size) (h : eol (t.getD b 0) = true) : crlf false (t.toList.drop b) = 13 :: 10 :: crlf false (t.toList.drop (b + wid t b)) := by
  rw [drop_cons t b hb]
  unfold wid
  show (if t.getD b 0 == 13 then _ else if t.getD b 0 == 10 then _ else _) = _
  cases h13 : t.getD b 0 == 13 with
  | false =>
    have h10 : (t.getD b 0 == 10) = true := by unfold eol at h; rw [h13, Bool.or_false] at h; exact h
    rw [h10]; rfl
  | true =>
    by_cases hlt : b + 1 < t.size
    · rw [decide_eq_true hlt, Bool.true_and, Bool.true_and]
      cases h10 : t.getD (b + 1) 0 == 10 with
      | true =>
        show 13 :: 10 :: crlf true (t.toList.drop (b + 1)) = 13 :: 10 :: crlf false (t.toList.drop (b + 2))
        rw [drop_cons t (b + 1) hlt]
        show 13 :: 10 :: (if t.getD (b + 1) 0 == 13 then _ else if t.getD (b + 1) 0 == 10 then (if true then _ else _) else _) = _
        rw [h10, beq_iff_eq.mp h10]; rfl
      | false =>
        show 13 :: 10 :: crlf true (t.toList.drop (b + 1)) = 13 :: 10 :: crlf false (t.toList.drop (b + 1))
        rw [drop_cons t (b + 1) hlt, crlf_true _ _ h10]
    · rw [decide_eq_false hlt]
      have : t.toList.drop (b + 1) = [] := by rw [List.drop_eq_nil_iff]; simpa using hlt
      show 13 :: 10 :: crlf true (t.toList.drop (b + 1)) = 13 :: 10 :: crlf false (t.toList.drop (b + 1))
      rw [this]; rfl
theorem mem_seg {t : Array Nat} {d b c : Nat} (h : c ∈ (t.toList.drop d).take (b - d)) : ∃ i, d ≤ i ∧ i < b ∧ i < t.size ∧ c = t.getD i 0 := by
  obtain ⟨j, hj, e⟩ := List.mem_iff_getElem.mp h
  simp only [List.length_take, List.length_drop, Array.length_toList] at hj
  refine ⟨d + j, by lia, by lia, by lia, ?_⟩
  rw [← e]
  simp [Array.getD, show d + j < t.size by lia]
theorem pieces2 (t : Array Nat) (r : Str) (hr : r.cps.toList = [13, 10]) : ∀ (n d : Nat), t.size - d < n → flat (pieces (f2 t) t r n d) = crlf false (t.toList.drop d)
  | 0, d, h => absurd h (Nat.not_lt_zero _)
  | n + 1, d, h => by
    unfold pieces f2
    cases hf : firstHit (fun c => eol (t.getD c 0)) (t.size - d) d with
    | none =>
      have f := firstHit_none hf
      show flat (if d < t.size then _ else _) = _
      have e : (t.toList.drop d).take (t.size - d) = t.toList.drop d := List.take_of_length_le (by simp)
      have q : crlf false (t.toList.drop d ++ []) = t.toList.drop d ++ crlf false [] := crlf_pre _ _ fun c hc => by
        rw [← e] at hc
        obtain ⟨i, h1, h2, h3, e⟩ := mem_seg hc
        rw [e]; exact f i h1 (by lia)
      rw [List.append_nil] at q
      rw [q]
      by_cases hd : d < t.size
      · rw [flat_slice t d t.size (by lia), e]; simp [crlf]
      · rw [if_neg hd, show t.toList.drop d = [] by rw [List.drop_eq_nil_iff]; simpa using hd]; rfl
    | some b =>
      obtain ⟨h1, h2, h3, h4⟩ := firstHit_some hf
      show flat ((if d < b then _ else _) ++ r :: pieces (f2 t) t r n (b + wid t b)) = _
      have hw := wid_pos t b
      have ih := pieces2 t r hr n (b + wid t b) (by lia)
      show List.flatMap _ (_ ++ _) = _
      rw [List.flatMap_append, List.flatMap_cons]
      show flat _ ++ (r.cps.toList ++ flat _) = _
      have e := congrArg (crlf false) (drop_split t.toList d b h1)
      rw [crlf_pre, crlf_hit t b (by lia) h3] at e
      · rw [flat_slice t d b h1, ih, hr, e]; rfl
      · intro c hc
        obtain ⟨i, h1, h2, h3, e⟩ := mem_seg hc
        rw [e]; exact h4 i h1 h2
theorem dots_seg (t : Array Nat) : ∀ (n d : Nat), d + n ≤ t.size → (∀ c, d ≤ c → c < d + n → hit1 t c = false) → dots (at1 t d) (t.toList.drop d) = (t.toList.drop d).take n ++ dots (at1 t (d + n)) (t.toList.drop (d + n))
  | 0, d, _, _ => by simp
  | n + 1, d, h, f => by
    have ih := dots_seg t n (d + 1) (by lia) fun c h1 h2 => f c (by lia) (by lia)
    have hd := f d (Nat.le_refl _) (by lia)
    rw [drop_cons t d (by lia), List.take_succ_cons]
    show (if at1 t d && t.getD d 0 == 46 then _ else _) ++ dots (t.getD d 0 == 10) _ = _
    unfold hit1 at hd
    rw [hd]
    have e : at1 t (d + 1) = (t.getD d 0 == 10) := by unfold at1; simp
    rw [← e, ih, show d + 1 + n = d + (n + 1) by lia]
    rfl
theorem pieces1 (t : Array Nat) (r : Str) (hr : r.cps.toList = [46, 46]) : ∀ (n d : Nat), t.size - d < n → d ≤ t.size → flat (pieces (f1 t) t r n d) = dots (at1 t d) (t.toList.drop d)
  | 0, d, h, _ => absurd h (Nat.not_lt_zero _)
  | n + 1, d, h, hle => by
    unfold pieces f1
    cases hf : firstHit (hit1 t) (t.size - d) d with
    | none =>
      have f := firstHit_none hf
      show flat (if d < t.size then _ else _) = _
      rw [dots_seg t (t.size - d) d (by lia) fun c h1 h2 => f c h1 (by lia)]
      rw [flat_slice t d t.size (by lia), show d + (t.size - d) = t.size by lia, show t.toList.drop t.size = [] by simp]
      simp [dots]
    | some b =>
      obtain ⟨h1, h2, h3, h4⟩ := firstHit_some hf
      show flat ((if d < b then _ else _) ++ r :: pieces (f1 t) t r n (b + 1)) = _
      have ih := pieces1 t r hr n (b + 1) (by lia) (by lia)
      show List.flatMap _ (_ ++ _) = _
      rw [List.flatMap_append, List.flatMap_cons]
      show flat _ ++ (r.cps.toList ++ flat _) = _
      rw [flat_slice t d b h1, ih, hr, dots_seg t (b - d) d (by lia) fun c q1 q2 => h4 c q1 (by lia), show d + (b - d) = b by lia, drop_cons t b (by lia)]
      show _ = _ ++ ((if at1 t b && t.getD b 0 == 46 then _ else _) ++ dots (t.getD b 0 == 10) _)
      unfold hit1 at h3
      rw [h3]
      have e : at1 t (b + 1) = (t.getD b 0 == 10) := by unfold at1; simp
      rw [e]; rfl

noncomputable def Tl (l : List Nat) : Sp := fun _ v => ∃ x t, v = .str x t ∧ x.cps.toList = l
theorem flat_Tl (l) : Flat (Tl l) := fun _ _ _ x => x
theorem mono_Tl (l) : Mono (Tl l) := (flat_Tl l).mono
theorem join_toList : ∀ texts : List Str, (Txt.join ⟨#[]⟩ texts).cps.toList = flat texts := by
  intro texts
  show (glued ⟨#[]⟩ texts).cps.toList = _
  rw [StrLaws.glued_eq_join]
  induction texts with
  | nil => rfl
  | cons x r ih =>
    cases r with
    | nil => show x.cps.toList = _; simp [flat]
    | cons y r =>
      show ((x.cps ++ #[]) ++ (Str.join ⟨#[]⟩ (y :: r)).cps).toList = _
      rw [Array.toList_append, ih]; simp [flat]
theorem joinOk_of (texts : List Str) (h : (flat texts).length ≤ 2 ^ 24) : JoinOk ⟨#[]⟩ texts = true := by
  unfold JoinOk
  rw [StrLaws.joinTotal]
  have e : (texts.map (·.length)).sum = (flat texts).length := by
    induction texts with
    | nil => rfl
    | cons x r ih =>
      have hr : (flat r).length ≤ 2 ^ 24 := by simp [flat] at h ⊢; lia
      rw [List.map_cons, List.sum_cons, ih hr]; simp [flat, Str.length]
  have e0 : (⟨#[]⟩ : Str).length = 0 := rfl
  rw [e, e0, Nat.mul_zero, Nat.add_zero]
  simp only [tooLong, sizeLine]
  simpa using h
theorem crlf_len : ∀ (b : Bool) (l : List Nat), (crlf b l).length ≤ 2 * l.length
  | _, [] => Nat.le_refl _
  | b, c :: r => by
    have h1 := crlf_len true r
    have h2 := crlf_len false r
    show (if c == 13 then _ else if c == 10 then (if b then _ else _) else _ : List Nat).length ≤ 2 * (r.length + 1)
    split
    · simp only [List.length_cons]; lia
    · split
      · split
        · lia
        · simp only [List.length_cons]; lia
      · simp only [List.length_cons]; lia
theorem dots_len : ∀ (b : Bool) (l : List Nat), (dots b l).length ≤ 2 * l.length
  | _, [] => Nat.le_refl _
  | b, c :: r => by
    have h1 := dots_len (c == 10) r
    show ((if (b && c == 46) = true then [46, 46] else [c]) ++ dots (c == 10) r).length ≤ 2 * (r.length + 1)
    rw [List.length_append]
    split
    · simp only [List.length_cons, List.length_nil]; lia
    · simp only [List.length_cons, List.length_nil]; lia
section
variable {prog : Program} {w : World} {A : Around} {s : Shared} {E : Value → Shared → Prop}
theorem call_sub1 {a : Addr} {x r : Str} {t u : Tok} {Q : Value → Shared → Prop} (p : IsPat s.heap a code1) (hr : r.cps.toList = [46, 46]) (hs : x.cps.toList.length < 4000000)
    (q : ∀ s' v, Keeps s s' → Tl (dots true x.cps.toList) s'.heap v → Q v s') : wpAny (model prog w) A (call (.builtin "re.Pattern.sub") [.ref a, .str r u, .str x t]) Q E s := by
  have hz : x.cps.size < 4000000 := by simpa using hs
  have e := pieces1 x.cps r hr (x.cps.size + 1) 0 (by lia) (Nat.zero_le _)
  have e' : flat (pieces (f1 x.cps) x.cps r (x.cps.size + 1) 0) = dots true x.cps.toList := e
  have hl := dots_len true x.cps.toList
  refine call_sub (nxt1 x.cps (by lia)) (by lia) p ?_ (joinOk_of _ (by rw [e', show (2 : Nat) ^ 24 = 16777216 from rfl]; lia)) fun s' tk k => q s' _ k ⟨_, tk, rfl, by rw [join_toList, e']⟩
  rw [show r.cps = #[46, 46] from Array.ext' hr]; decide +kernel
theorem call_sub2 {a : Addr} {x r : Str} {t u : Tok} {Q : Value → Shared → Prop} (p : IsPat s.heap a code2) (hr : r.cps.toList = [13, 10]) (hs : x.cps.toList.length < 4000000)
    (q : ∀ s' v, Keeps s s' → Tl (crlf false x.cps.toList) s'.heap v → Q v s') : wpAny (model prog w) A (call (.builtin "re.Pattern.sub") [.ref a, .str r u, .str x t]) Q E s := by
  have hz : x.cps.size < 4000000 := by simpa using hs
  have e := pieces2 x.cps r hr (x.cps.size + 1) 0 (by lia)
  have e' : flat (pieces (f2 x.cps) x.cps r (x.cps.size + 1) 0) = crlf false x.cps.toList := e
  have hl := crlf_len false x.cps.toList
  refine call_sub (nxt2 x.cps) (by lia) p ?_ (joinOk_of _ (by rw [e', show (2 : Nat) ^ 24 = 16777216 from rfl]; lia)) fun s' tk k => q s' _ k ⟨_, tk, rfl, by rw [join_toList, e']⟩
  rw [show r.cps = #[13, 10] from Array.ext' hr]; decide +kernel
end
noncomputable def quote (l : List Nat) : List Nat := dots true (crlf false l)
end Mine
end
section
open PySem PySem.W PyProof.Rows
set_option Elab.async false
set_option maxRecDepth 100000
set_option linter.unusedVariables false
namespace Mine
section
variable {prog : Program} {w : World} {H : Heap} {env : Env} {X Z Z0 : List Addr} {μ : List (Addr × MSp)} {ρ : List (Str × Sp)} {h h' : Heap} {A : Around} {E : Value → Shared → Prop} {s : Shared} {n : Nat}

noncomputable abbrev Zl (h : Heap) (Z : List Addr) : Prop := ∀ z ∈ Z, ∃ o, h.get? z = some o
theorem fresh_hid {Z : List Addr} {h h' : Heap} {o : Obj} (zl : Zl h Z) (e : h'.get? h.objs.size = some o) : (hid Z h').get? h.objs.size = some o :=
  hid_get e fun m => by obtain ⟨o, e⟩ := zl _ m; exact Nat.lt_irrefl _ (Heap.lt_size e)
theorem keeps_push (s : Shared) (o : Obj) (k : Nat) : Keeps s { s with heap := s.heap.push o, toks := k } := ⟨_, k, rfl, fun b o e => Heap.get?_push_of_some _ e⟩

/-! ## subscripts -/
noncomputable def subOps (slice : Expr) (o i : Value) : List Value := match slice with | .Slice _ _ none _ => [i, o] | _ => [o, i]
theorem subscripted_is (slice : Expr) (o i : Value) : subscripted slice false o i = operate (subOps slice o i) (getItem o i) := by
  cases slice with
  | Slice a b c d => cases c <;> rfl
  | _ => rfl
theorem ev_subr {e1 e2 : Expr} {pos : Pos} {S1 S2 S : Sp} {Z1 Z2 Z : List Addr} (x : EV prog w n Z1 env h e1 S1) (y : EV prog w n Z2 env h e2 S2) (m : Mono S1)
    (r : ∀ A (s : Shared) E o i, Rm n A → Sub h s.heap → S1 (hid Z1 s.heap) o → S2 (hid Z2 s.heap) i →
      (∃ T id, s.TypeIs o T ∧ typeLookup (.type T) "__getitem__" = pure (some (.builtin id))) ∧ wpAny (model prog w) A (getItem o i) (fun v s' => Keeps s s' ∧ S (hid Z s'.heap) v) E s) :
    EV prog w n Z env h (.Subscript e1 e2 pos) S := fun A s E rm k =>
  Subscript_ (wpAny_mono (x A s E rm k) (fun o s1 ⟨k1, h1⟩ => wpAny_mono (y A s1 E rm (k.trans (ksub k1))) (fun i s2 ⟨k2, h2⟩ => by
    obtain ⟨⟨T, id, hT, hl⟩, hg⟩ := r A s2 E o i rm (k.trans ((ksub k1).trans (ksub k2))) (m _ _ _ (hid_sub_mono (ksub k2)) h1) h2
    exact tail_any hT hl (wpAny_mono hg (fun v s3 ⟨k3, h3⟩ => ⟨ktr (ktr k1 k2) k3, h3⟩) fun _ _ e => e) (subscripted_is _ _ _)) fun _ _ e => e) fun _ _ e => e)
/-- an item of a list -/
theorem ev_item {e1 e2 : Expr} {pos : Pos} {α : Type} {R : α → Sp} {xs : List α} {k : Int} {a : α} (x : EV prog w n Z env h e1 (Ls R xs)) (y : EV prog w n [] env h e2 (I k)) (mR : ∀ a, Mono (R a)) (h0 : 0 ≤ k) (hx : xs[k.toNat]? = some a) (hb : k < 2 ^ 63) :
    EV prog w n Z env h (.Subscript e1 e2 pos) (R a) := ev_subr x y (mono_Ls mR xs) fun A s E o i rm k' ho hi => by
  obtain ⟨l, vs, rfl, hl, hp⟩ := ho
  obtain ⟨t, rfl⟩ := hi
  obtain ⟨v, hv, hr⟩ := paired_get' hp hx
  have hl' : s.heap.IsList l vs := (plainList_sub (hid_sub Z _) hl).isList
  exact ⟨⟨_, _, hl'.typeIs, slot_list_getitem.lookup⟩, wpAny_getItem_list hl' h0 hb (by rw [← Array.getElem?_toList]; exact hv) ⟨keeps_refl s, hr⟩⟩
theorem ev_item_neg {e1 e2 : Expr} {pos : Pos} {α : Type} {R : α → Sp} {xs : List α} {k : Int} {a : α} (x : EV prog w n Z env h e1 (Ls R xs)) (y : EV prog w n [] env h e2 (I k)) (mR : ∀ a, Mono (R a)) (h0 : k < 0) (h1 : -(xs.length : Int) ≤ k) (hx : xs[(k + xs.length).toNat]? = some a) (hb : -(2 ^ 63) ≤ k) :
    EV prog w n Z env h (.Subscript e1 e2 pos) (R a) := ev_subr x y (mono_Ls mR xs) fun A s E o i rm k' ho hi => by
  obtain ⟨l, vs, rfl, hl, hp⟩ := ho
  obtain ⟨t, rfl⟩ := hi
  have hn : vs.size = xs.length := by have := hp.length; simp at this; lia
  obtain ⟨v, hv, hr⟩ := paired_get' hp hx
  have hl' : s.heap.IsList l vs := (plainList_sub (hid_sub Z _) hl).isList
  exact ⟨⟨_, _, hl'.typeIs, slot_list_getitem.lookup⟩, wpAny_getItem_list_neg hl' h0 (by rw [hn]; exact h1) hb (by rw [hn, ← Array.getElem?_toList]; exact hv) ⟨keeps_refl s, hr⟩⟩
theorem ev_thd {e1 e2 : Expr} {pos : Pos} {α β γ : Type} {R : α → Sp} {R' : β → Sp} {R'' : γ → Sp} {p : α × β × γ} {k : Int} {j : Nat} {u' : Value → Value → Value → Value} {S : Sp} (x : EV prog w n Z env h e1 (T3 R R' R'' p)) (y : EV prog w n [] env h e2 (I k)) (m : ∀ a, Mono (R a)) (m' : ∀ a, Mono (R' a)) (m'' : ∀ a, Mono (R'' a))
    (hk : k = (j : Nat)) (hj : (j = 0 ∧ S = R p.1) ∨ (j = 1 ∧ S = R' p.2.1) ∨ (j = 2 ∧ S = R'' p.2.2)) :
    EV prog w n Z env h (.Subscript e1 e2 pos) S := ev_subr x y (mono_T3 m m' m'' p) fun A s E o i rm k' ho hi => by
  obtain ⟨l, u, v, z, rfl, hl, hu, hv, hz⟩ := ho
  obtain ⟨t, rfl⟩ := hi
  subst hk
  have hl' : IsTup s.heap l #[u, v, z] := isTuple_sub (hid_sub Z _) hl
  refine ⟨⟨_, _, hl'.typeIs, slot_tuple_getitem.lookup⟩, ?_⟩
  rcases hj with ⟨rfl, rfl⟩ | ⟨rfl, rfl⟩ | ⟨rfl, rfl⟩
  · exact PyProof.Rows.getItem_tuple (j := 0) hl' (by decide) (by decide) rfl rfl ⟨keeps_refl s, hu⟩
  · exact PyProof.Rows.getItem_tuple (j := 1) hl' (by decide) (by decide) rfl rfl ⟨keeps_refl s, hv⟩
  · exact PyProof.Rows.getItem_tuple (j := 2) hl' (by decide) (by decide) rfl rfl ⟨keeps_refl s, hz⟩

/-! ## slices -/
noncomputable def Sl (lo hi st : Option Int) : Sp := fun h v => ∃ a l u x, v = .ref a ∧ h.IsSliceOf a l u x ∧ IsPart l lo ∧ IsPart u hi ∧ IsPart x st
/-- a part of a slice -/
noncomputable def EVp (prog : Program) (w : World) (n : Nat) (env : Env) (h : Heap) : Option Expr → Option Int → Prop
  | none, i => i = none
  | some e, i => ∃ k, i = some k ∧ EV prog w n [] env h e (I k)
theorem evp_none : EVp prog w n env h none none := rfl
theorem evp_some {e k} (x : EV prog w n [] env h e (I k)) : EVp prog w n env h (some e) (some k) := ⟨k, rfl, x⟩
theorem EVp.part {e i} (x : EVp prog w n env h e i) {A s} {E : Value → Shared → Prop} (rm : Rm n A) (k : Sub h s.heap) : wpAny (model prog w) A (evalPart e env) (fun v s' => Keeps s s' ∧ IsPart v i) E s := by
  cases e with
  | none => cases (show i = none from x); exact wpAny_pure ⟨keeps_refl s, .none⟩
  | some e => obtain ⟨j, rfl, y⟩ := x; exact wpAny_mono (y A s E rm k) (fun v s' ⟨k', t, e⟩ => ⟨k', by subst e; exact .int _ _⟩) fun _ _ e => e
theorem ev_slice {l u x : Option Expr} {pos : Pos} {lo hi st} (zl : Zl h Z) (pl : EVp prog w n env h l lo) (pu : EVp prog w n env h u hi) (px : EVp prog w n env h x st) : EV prog w n Z env h (.Slice l u x pos) (Sl lo hi st) := fun A s E rm k =>
  wpAny_Slice (wpAny_mono (pl.part rm k) (fun v1 s1 ⟨k1, h1⟩ => wpAny_mono (pu.part rm (k.trans (ksub k1))) (fun v2 s2 ⟨k2, h2⟩ => wpAny_mono (px.part rm (k.trans ((ksub k1).trans (ksub k2)))) (fun v3 s3 ⟨k3, h3⟩ => by
    have k123 := ktr (ktr k1 k2) k3
    exact ⟨ktr k123 (keeps_push s3 _ s3.toks), _, v1, v2, v3, rfl, ⟨_, fresh_hid (zl_sub zl (k.trans (ksub k123))) (Heap.get?_push_size _ rfl), rfl, rfl⟩, h1, h2, h3⟩) fun _ _ e => e) fun _ _ e => e) fun _ _ e => e)

theorem paired_drop {α β : Type} {F : α → β → Prop} : ∀ {l : List α} {m : List β} (k : Nat), Paired F l m → Paired F (l.drop k) (m.drop k)
  | _, _, 0, h => h
  | _, _, k + 1, .nil => .nil
  | _, _, k + 1, .cons _ t => paired_drop k t
theorem paired_take {α β : Type} {F : α → β → Prop} : ∀ {l : List α} {m : List β} (k : Nat), Paired F l m → Paired F (l.take k) (m.take k)
  | _, _, 0, h => by rw [List.take_zero, List.take_zero]; exact .nil
  | _, _, k + 1, .nil => .nil
  | _, _, k + 1, .cons x t => .cons x (paired_take k t)
theorem paired_append {α β : Type} {F : α → β → Prop} : ∀ {l : List α} {m : List β} {l' m'}, Paired F l m → Paired F l' m' → Paired F (l ++ l') (m ++ m')
  | _, _, _, _, .nil, h => h
  | _, _, _, _, .cons x t, h => .cons x (paired_append t h)
theorem paired_reverse {α β : Type} {F : α → β → Prop} : ∀ {l : List α} {m : List β}, Paired F l m → Paired F l.reverse m.reverse
  | _, _, .nil => .nil
  | _, _, .cons x t => by rw [List.reverse_cons, List.reverse_cons]; exact paired_append (paired_reverse t) (.cons x .nil)
noncomputable def cut {α : Type} (xs : List α) (lo hi : Option Int) : List α := (xs.drop (lo.elim 0 (clipAt xs.length))).take (hi.elim xs.length (clipAt xs.length) - lo.elim 0 (clipAt xs.length))
theorem ev_cut {e1 e2 : Expr} {pos : Pos} {α : Type} {R : α → Sp} {xs : List α} {lo hi : Option Int} (zl : Zl h Z) (x : EV prog w n Z env h e1 (Ls R xs)) (y : EV prog w n Z env h e2 (Sl lo hi none)) (mR : ∀ a, Mono (R a)) (hs : xs.length ≤ sizeLine) :
    EV prog w n Z env h (.Subscript e1 e2 pos) (Ls R (cut xs lo hi)) := ev_subr x y (mono_Ls mR xs) fun A s E o i rm k' ho hi => by
  obtain ⟨l, vs, rfl, hl, hp⟩ := ho
  obtain ⟨a, u1, u2, u3, rfl, hs1, p1, p2, p3⟩ := hi
  have hn : vs.size = xs.length := by have := hp.length; simp at this; lia
  have hl' : s.heap.IsList l vs := (plainList_sub (hid_sub Z _) hl).isList
  have hs' : s.heap.IsSliceOf a u1 u2 u3 := let ⟨o, e, r⟩ := hs1; ⟨o, hid_sub Z _ _ _ e, r⟩
  refine ⟨⟨_, _, hl'.typeIs, slot_list_getitem.lookup⟩, wpAny_getItem_list_slice hl' hs' p1 p2 p3 (by simp) ⟨keeps_push s _ s.toks, _, _, rfl, ⟨0, fresh_hid (zl_sub zl k') (Heap.get?_push_size _ rfl)⟩, ?_⟩ (by rw [hn]; exact hs)⟩
  rw [slicePick_plain, hn]
  exact paired_imp (fun _ _ r => mR _ _ _ _ (hid_sub_mono fun b o e => Heap.get?_push_of_some _ e) r) (paired_take _ (paired_drop _ hp))
theorem ev_cutrev {e1 e2 : Expr} {pos : Pos} {α : Type} {R : α → Sp} {xs : List α} (zl : Zl h Z) (x : EV prog w n Z env h e1 (Ls R xs)) (y : EV prog w n Z env h e2 (Sl none none (some (-1)))) (mR : ∀ a, Mono (R a)) (hs : xs.length ≤ sizeLine) :
    EV prog w n Z env h (.Subscript e1 e2 pos) (Ls R xs.reverse) := ev_subr x y (mono_Ls mR xs) fun A s E o i rm k' ho hi => by
  obtain ⟨l, vs, rfl, hl, hp⟩ := ho
  obtain ⟨a, u1, u2, u3, rfl, hs1, p1, p2, p3⟩ := hi
  have hn : vs.size = xs.length := by have := hp.length; simp at this; lia
  have hl' : s.heap.IsList l vs := (plainList_sub (hid_sub Z _) hl).isList
  have hs' : s.heap.IsSliceOf a u1 u2 u3 := let ⟨o, e, r⟩ := hs1; ⟨o, hid_sub Z _ _ _ e, r⟩
  refine ⟨⟨_, _, hl'.typeIs, slot_list_getitem.lookup⟩, wpAny_getItem_list_slice hl' hs' p1 p2 p3 (by simp) ⟨keeps_push s _ s.toks, _, _, rfl, ⟨0, fresh_hid (zl_sub zl k') (Heap.get?_push_size _ rfl)⟩, ?_⟩ (by rw [hn]; exact hs)⟩
  rw [krv_pick]
  exact paired_imp (fun _ _ r => mR _ _ _ _ (hid_sub_mono fun b o e => Heap.get?_push_of_some _ e) r) (paired_reverse hp)
theorem ev_cutb {e1 e2 : Expr} {pos : Pos} {b : Array UInt8} {lo hi : Option Int} (x : EV prog w n [] env h e1 (By b)) (y : EV prog w n [] env h e2 (Sl lo hi none)) (hs : b.size ≤ sizeLine) :
    EV prog w n Z env h (.Subscript e1 e2 pos) (By (cut b.toList lo hi).toArray) := ev_subr x y (flat_By b).mono fun A s E o i rm k' ho hi => by
  obtain ⟨t, rfl⟩ := ho
  obtain ⟨a, u1, u2, u3, rfl, hs1, p1, p2, p3⟩ := hi
  have hs' : s.heap.IsSliceOf a u1 u2 u3 := let ⟨o, e, r⟩ := hs1; ⟨o, hid_sub [] _ _ _ e, r⟩
  cases p3
  have e : KBy.picked b lo hi = (cut b.toList lo hi).toArray := by rw [KBc.picked_eq]; unfold cut; rw [Array.length_toList]
  refine ⟨⟨"bytes", _, typeIs_bytes _ b t, FB.slot_bytes_getitem.lookup⟩, getItem_meets (typeIs_bytes _ _ _) (by decide) FB.slot_bytes_getitem FB.entry_bytes_getitem (FB.args_bytes_getitem_2 _ _) (KBc.meets_slice2 b t a p1 p2) ⟨hs', Nat.le_trans (KBc.size_picked_le b lo hi) hs, fun t' k => ?_⟩⟩
  rw [e]
  exact ⟨keeps_tok s k, t', rfl⟩

/-! ## displays -/
theorem ev_list {es : List Expr} {pos : Pos} {α : Type} {R : α → Sp} {xs : List α} {ts} (zl : Zl h Z) (ht : backTo pos (starEach es env) = ts) (x : TVs prog w n Z h ts (xs.map R)) (hs : xs.length ≤ sizeLine) (mR : ∀ a, Mono (R a)) : EV prog w n Z env h (.List es pos) (Ls R xs) := fun A s E rm k => by
  refine wpAny_List ?_
  rw [ht]
  refine wpAny_mono (spl x rm k) (fun vs s1 hh => ?_) fun _ _ e => e
  obtain ⟨k1, h1⟩ := hh
  have hp : Paired (fun x v => R x (hid Z s1.heap) v) xs vs := by
    clear x hs k1
    generalize hm : xs.map R = Ss at h1
    induction h1 generalizing xs with
    | nil => cases xs with | nil => exact .nil | cons _ _ => cases hm
    | cons p q ih => cases xs with
      | nil => cases hm
      | cons a xs => rw [List.map_cons] at hm; injection hm with e1 e2; subst e1; exact .cons p (ih e2)
  have hl : vs.length = xs.length := hp.length.symm
  refine ⟨by lia, ktr k1 (keeps_push s1 _ s1.toks), _, _, rfl, ⟨0, fresh_hid (zl_sub zl (k.trans (ksub k1))) (Heap.get?_push_size _ rfl)⟩, ?_⟩
  exact paired_imp (fun _ _ r => mR _ _ _ _ (hid_sub_mono fun b o e => Heap.get?_push_of_some _ e) r) hp
theorem ev_pair {e1 e2 : Expr} {k : Nat} {pos : Pos} {α β : Type} {R : α → Sp} {R' : β → Sp} {p : α × β} (zl : Zl h Z) (ht : backTo pos (starEach [e1, e2] env) = [(false, eval e1 env), (false, eval e2 env)])
    (x : EV prog w n Z env h e1 (R p.1)) (m : Mono (R p.1)) (y : EV prog w n Z env h e2 (R' p.2)) (m' : Mono (R' p.2)) : EV prog w n Z env h (.Tuple [e1, e2] k pos) (T2 R R' p) := fun A s E rm k => by
  refine wpAny_Tuple ?_
  rw [ht]
  refine wpAny_mono (spl (.cons x m (.cons y m' .nil)) rm k) (fun vs s1 ⟨k1, h1⟩ => ?_) fun _ _ e => e
  obtain ⟨u, v, rfl, hu, hv⟩ := args2 h1
  have kp : Sub (hid Z s1.heap) (hid Z (s1.heap.push { cls := .type "tuple", data := .seq #[u, v] })) := hid_sub_mono fun b o e => Heap.get?_push_of_some _ e
  exact ⟨Nat.le_of_ble_eq_true rfl, ktr k1 (keeps_push s1 _ s1.toks), _, u, v, rfl, ⟨_, fresh_hid (zl_sub zl (k.trans (ksub k1))) (Heap.get?_push_size _ rfl), rfl, 0, rfl⟩, m _ _ _ kp hu, m' _ _ _ kp hv⟩
theorem ev_triple {e1 e2 e3 : Expr} {k : Nat} {pos : Pos} {α β γ : Type} {R : α → Sp} {R' : β → Sp} {R'' : γ → Sp} {p : α × β × γ} (zl : Zl h Z) (ht : backTo pos (starEach [e1, e2, e3] env) = [(false, eval e1 env), (false, eval e2 env), (false, eval e3 env)])
    (x : EV prog w n Z env h e1 (R p.1)) (m : Mono (R p.1)) (y : EV prog w n Z env h e2 (R' p.2.1)) (m' : Mono (R' p.2.1)) (z : EV prog w n Z env h e3 (R'' p.2.2)) (m'' : Mono (R'' p.2.2)) : EV prog w n Z env h (.Tuple [e1, e2, e3] k pos) (T3 R R' R'' p) := fun A s E rm k => by
  refine wpAny_Tuple ?_
  rw [ht]
  refine wpAny_mono (spl (.cons x m (.cons y m' (.cons z m'' .nil))) rm k) (fun vs s1 ⟨k1, h1⟩ => ?_) fun _ _ e => e
  obtain ⟨u, v, q, rfl, hu, hv, hq⟩ := args3 h1
  have kp : Sub (hid Z s1.heap) (hid Z (s1.heap.push { cls := .type "tuple", data := .seq #[u, v, q] })) := hid_sub_mono fun b o e => Heap.get?_push_of_some _ e
  exact ⟨Nat.le_of_ble_eq_true rfl, ktr k1 (keeps_push s1 _ s1.toks), _, u, v, q, rfl, ⟨_, fresh_hid (zl_sub zl (k.trans (ksub k1))) (Heap.get?_push_size _ rfl), rfl, 0, rfl⟩, m _ _ _ kp hu, m' _ _ _ kp hv, m'' _ _ _ kp hq⟩

/-! ## lists under operators -/
noncomputable abbrev BinZ (prog : Program) (w : World) (n : Nat) (op : Operator) (S1 S2 S : Sp) : Prop := ∀ A (s : Shared) Z E a b, Rm n A → Zl s.heap Z → S1 (hid Z s.heap) a → S2 (hid Z s.heap) b →
  wpAny (model prog w) A (binaryOp op a b) (fun v s' => Keeps s s' ∧ S (hid Z s'.heap) v) E s
theorem ev_binz {e1 e2 : Expr} {op : Operator} {pos : Pos} {S1 S2 S : Sp} (zl : Zl h Z) (x : EV prog w n Z env h e1 S1) (y : EV prog w n Z env h e2 S2) (m : Mono S1) (r : BinZ prog w n op S1 S2 S) : EV prog w n Z env h (.BinOp e1 op e2 pos) S := fun A s E rm k =>
  wpAny_BinOp (wpAny_mono (x A s E rm k) (fun a s1 ⟨k1, h1⟩ => wpAny_mono (y A s1 E rm (k.trans (ksub k1))) (fun b s2 ⟨k2, h2⟩ =>
    wpAny_mono (r A s2 Z E a b rm (zl_sub zl (k.trans ((ksub k1).trans (ksub k2)))) (m _ _ _ (hid_sub_mono (ksub k2)) h1) h2) (fun v s3 ⟨k3, h3⟩ => ⟨ktr (ktr k1 k2) k3, h3⟩) fun _ _ e => e) fun _ _ e => e) fun _ _ e => e)
theorem bin_addlist {α : Type} {R : α → Sp} {xs ys : List α} (mR : ∀ a, Mono (R a)) (hs : xs.length + ys.length ≤ sizeLine) : BinZ prog w n .Add (Ls R xs) (Ls R ys) (Ls R (xs ++ ys)) := fun A s Z E a b _ zl ha hb => by
  obtain ⟨l, vs, rfl, ⟨k1, hl⟩, hp⟩ := ha
  obtain ⟨l', vs', rfl, ⟨k2, hl'⟩, hp'⟩ := hb
  have n1 : vs.size = xs.length := by have := hp.length; simp at this; lia
  have n2 : vs'.size = ys.length := by have := hp'.length; simp at this; lia
  refine P.add_list (hid_sub Z _ _ _ hl) (hid_sub Z _ _ _ hl') ⟨keeps_push s _ s.toks, _, _, rfl, ⟨0, fresh_hid zl (Heap.get?_push_size _ rfl)⟩, ?_⟩ (by lia)
  rw [Array.toList_append]
  exact paired_imp (fun _ _ r => mR _ _ _ _ (hid_sub_mono fun b o e => Heap.get?_push_of_some _ e) r) (paired_append hp hp')
end
end Mine
end
section
open PySem PySem.W PyProof.Rows
set_option Elab.async false
set_option maxRecDepth 100000
set_option linter.unusedVariables false
namespace Mine
section
variable {prog : Program} {w : World} {H : Heap} {env : Env} {X Z Z0 : List Addr} {μ : List (Addr × MSp)} {ρ : List (Str × Sp)} {h h' : Heap} {A : Around} {E : Value → Shared → Prop} {s : Shared} {n : Nat}

/-! ## texts as lists -/
theorem T_Tl {x : Str} {h v} (y : T x h v) : Tl x.cps.toList h v := let ⟨t, e⟩ := y; ⟨x, t, e, rfl⟩
theorem ev_tl {Z env h} {x : Str} {k pos} {l : List Nat} (e : x.cps.toList = l) : EV prog w n Z env h (.Constant (.str x) k pos) (Tl l) := by
  subst e; exact ev_str.imp fun h v y => T_Tl y
theorem bin_addtl {a b : List Nat} (f : a.length + b.length ≤ sizeLine) : BinR prog w n .Add (Tl a) (Tl b) (Tl (a ++ b)) := fun A s _ _ _ E v u _ ⟨x, t, e, q⟩ ⟨x', t', e', q'⟩ => by
  subst e e' q q'
  refine SB.add (fun t' k => ⟨keeps_tok s k, _, t', rfl, ?_⟩) (by simpa [Str.length] using f)
  show (x.cps ++ x'.cps).toList = _
  rw [Array.toList_append]
/-! ## built-in functions -/
theorem call_lenlist {α : Type} {R : α → Sp} {xs : List α} (hs : xs.length < 2 ^ 40) : CallR prog w n (.builtin "len") [Ls R xs] (I xs.length) := fun A s Z Zr E vs rm x => by
  obtain ⟨_, rfl, a, ws, rfl, hl, hp⟩ := args1 x
  have e : (ws.size : Int) = xs.length := by have := hp.length; simp at this; lia
  exact Calls.call_len_list (plainList_sub (hid_sub Z _) hl).isList (by rw [e]; lia) ⟨keeps_tok s _, _, by rw [e]⟩
theorem call_lentl {l : List Nat} (hs : l.length < 2 ^ 40) : CallR prog w n (.builtin "len") [Tl l] (I l.length) := fun A s Z Zr E vs rm x => by
  obtain ⟨_, rfl, y, t, rfl, e⟩ := args1 x
  have e' : y.length = l.length := by rw [← e]; simp [Str.length]
  exact PySem.P.len_str (by rw [e']; lia) ⟨keeps_tok s _, _, by rw [e']⟩
theorem call_chr {i : Int} (h0 : 0 ≤ i) (h1 : i ≤ 0x10FFFF) : CallR prog w n (.builtin "chr") [I i] (Tl [i.toNat]) := fun A s Z Zr E vs rm x => by
  obtain ⟨_, rfl, t, rfl⟩ := args1 x
  exact P.chr_of_int (by rw [decide_eq_false (by lia), decide_eq_false (by lia)]; rfl) ⟨keeps_tok s _, _, _, rfl, rfl⟩
theorem call_ord {c : Nat} : CallR prog w n (.builtin "ord") [Tl [c]] (I c) := fun A s Z Zr E vs rm x => by
  obtain ⟨_, rfl, ⟨cps⟩, t, rfl, e⟩ := args1 x
  have : cps = #[c] := Array.ext' e
  subst this
  exact P.ord_of_char ⟨keeps_tok s _, _, rfl⟩
theorem preSum_eq (xs : List Int) : ∀ k, k ≤ xs.length → preSum (fun i => xs.getD i 0) k = (xs.take k).sum
  | 0, _ => by simp [preSum]
  | k + 1, h => by
    show preSum _ k + xs.getD k 0 = _
    rw [preSum_eq xs k (by lia), List.take_add_one, List.sum_append]
    simp [show k < xs.length by lia]
theorem call_sumints {xs : List Int} : CallR prog w n (.builtin "sum") [Ls I xs] (I xs.sum) := fun A s Z Zr E vs rm x => by
  obtain ⟨v, rfl, hv⟩ := args1 x
  refine call_sum_walkG (itr_list (prog := prog) (w := w) A.in1 s v Z _ E rm.hh hv fun I₀ fp P St s₂ k₂ hI hfp W hst hP lo alv => ?_)
  refine ⟨I₀, fp, [I₀], _, P, St, fun i => xs.getD i 0, rfl, W, hst, fun b hb => (hfp b hb).1, fun i u hu => ?_, fun h' tk t' hk => ⟨?_, t', ?_⟩⟩
  · obtain ⟨a, ha, t, rfl⟩ := hP i u hu
    refine ⟨t, ?_⟩
    show Value.int a t = Value.int (xs.getD i 0) t
    rw [List.getD_eq_getElem?_getD, ha]; rfl
  · obtain ⟨h2, tk2, e2, k2'⟩ := k₂
    subst e2
    refine ⟨h', tk, rfl, fun b o e => hk b o (fun hm => ?_) (k2' b o e)⟩
    have := Heap.lt_size e
    rw [List.mem_singleton.mp hm] at this
    exact Nat.lt_irrefl _ (Nat.lt_of_lt_of_le this hI)
  · rw [preSum_eq xs _ (Nat.le_refl _), List.take_length]
theorem rangeSize_up (a b : Int) : Builtin.Range.rangeSize a b 1 = ((b - a).toNat : Nat) := by rw [rangeSize_one]; split <;> lia
theorem call_range1 {b : Int} (h0 : -1000000 ≤ b) (h1 : b < 1000000) : CallZ prog w n (.type "range") [I b] (Rg 0 1 b.toNat) := fun A s Z E vs rm zl x => by
  obtain ⟨_, rfl, t, rfl⟩ := args1 x
  refine call_range_1 ⟨keeps_push s _ _, _, b, _, _, _, rfl, fresh_hid zl (Heap.get?_push_size _ rfl), ?_, small_one (by lia) (by lia) (by lia) (by lia)⟩
  rw [rangeSize_up]; simp
theorem call_range2 {a b : Int} (h0 : -1000000 ≤ b) (h1 : b < 1000000) (h2 : -1000000 ≤ a) (h3 : a < 1000000) : CallZ prog w n (.type "range") [I a, I b] (Rg a 1 (b - a).toNat) := fun A s Z E vs rm zl x => by
  obtain ⟨_, _, rfl, ⟨t, rfl⟩, ⟨u, rfl⟩⟩ := args2 x
  refine call_range_2 ⟨keeps_push s _ _, _, b, _, _, _, rfl, fresh_hid zl (Heap.get?_push_size _ rfl), ?_, small_one (by lia) (by lia) (by lia) (by lia)⟩
  rw [rangeSize_up]
theorem paired_of_get {α β : Type} {F : α → β → Prop} : ∀ {l : List α} {m : List β}, l.length = m.length → (∀ (i : Nat) x y, l[i]? = some x → m[i]? = some y → F x y) → Paired F l m
  | [], [], _, _ => .nil
  | a :: l, b :: m, e, k => .cons (k 0 a b rfl rfl) (paired_of_get (by simpa using e) fun i x y h1 h2 => k (i + 1) x y (by simpa using h1) (by simpa using h2))
theorem call_listrange {a : Int} {k : Nat} {c : Int} (hs : k ≤ 2 ^ 20) : CallZ prog w n (.type "list") [Rg a c k] (Ls I (rgList a c k)) := fun A s Z E vs rm zl x => by
  obtain ⟨_, rfl, r, b, t, u, y, rfl, hr, hn, hsm⟩ := args1 x
  refine call_list_range rm.hh (hid_sub Z _ _ _ hr) hsm hn (by lia) fun h' tk acc c' hk hS hi => ⟨⟨h', tk, rfl, hk⟩, _, acc, rfl, ⟨c', fresh_hid zl hS⟩, ?_⟩
  refine paired_of_get (by simp [rgList, hi.1]) fun i x y h1 h2 => ?_
  obtain ⟨t, rfl⟩ := hi.2 i y (by simpa using h2)
  have e : x = a + (i : Int) * c := by
    unfold rgList at h1
    rw [List.getElem?_map] at h1
    cases hq : (List.range k)[i]? with
    | none => rw [hq] at h1; cases h1
    | some j =>
      rw [hq] at h1
      have := List.getElem?_eq_some_iff.mp hq
      obtain ⟨hlt, hj⟩ := this
      rw [List.getElem_range] at hj
      subst hj
      simpa using h1.symm
  exact ⟨t, by rw [e]⟩
end
end Mine
end
section
open PySem PySem.W PyProof.Rows
set_option Elab.async false
set_option maxRecDepth 100000
set_option linter.unusedVariables false
namespace Mine
section
variable {prog : Program} {w : World} {H : Heap} {env : Env} {X Z Z0 : List Addr} {μ : List (Addr × MSp)} {ρ : List (Str × Sp)} {h h' : Heap} {A : Around} {E : Value → Shared → Prop} {s : Shared} {n : Nat}

/-! ## sorting ints -/
theorem intsAre_of {h : Heap} : ∀ {xs : List Int} {vs : List Value}, Paired (fun x v => I x h v) xs vs → IntsAre vs xs
  | _, _, .nil => .nil
  | _, _, .cons ⟨t, e⟩ r => by subst e; exact .cons _ _ (intsAre_of r)
/-! ## operators -/
theorem ev_neg {e : Expr} {pos : Pos} {a : Int} {Z : List Addr} (x : EV prog w n Z0 env h e (I a)) : EV prog w n Z env h (.UnaryOp .USub e pos) (I (-a)) := fun A s E rm k =>
  wpAny_UnaryOp (wpAny_mono (x A s E rm k) (fun v s1 ⟨k1, t, e⟩ => by
    subst e
    exact unaryOp_gives (op := .USub) (typeIs_int s1 a t) rfl F.slot_int_neg F.entry_int_neg (F.args_int_neg_1 _) (AutoIntG9.int___neg___int_0 a t) ⟨ktr k1 (keeps_tok s1 _), _, rfl⟩) fun _ _ e => e)
theorem ev_if {t e1 e2 : Expr} {pos : Pos} {b : Bool} {S : Sp} (x : EVb prog w n env h t b) (y : b = true → EV prog w n Z env h e1 S) (z : b = false → EV prog w n Z env h e2 S) : EV prog w n Z env h (.IfExp t e1 e2 pos) S := fun A s E rm k =>
  wpAny_IfExp (wpAny_mono (x A s E rm k) (fun r s1 ⟨e, k1⟩ => by
    subst e
    cases r with
    | true => exact wpAny_mono (y rfl A s1 E rm (k.trans (ksub k1))) (fun v s2 ⟨k2, h2⟩ => ⟨ktr k1 k2, h2⟩) fun _ _ e => e
    | false => exact wpAny_mono (z rfl A s1 E rm (k.trans (ksub k1))) (fun v s2 ⟨k2, h2⟩ => ⟨ktr k1 k2, h2⟩) fun _ _ e => e) fun _ _ e => e)
theorem cmp_ne_tl {a b : List Nat} : CmpR prog w n .NotEq (Tl a) (Tl b) (a != b) := fun A s _ _ E v u _ ⟨x, t, e, q⟩ ⟨x', t', e', q'⟩ => by subst e e' q q'; exact P.ne_str ⟨keeps_refl s, rfl⟩

/-! ## equal things -/
/-- one more call around, some room left -/
noncomputable def EqT' (d : Nat) (S1 S2 : Sp) : Prop := ∀ A (s : Shared) Z1 Z2 a c, A.units + d < 9900 → S1 (hid Z1 s.heap) a → S2 (hid Z2 s.heap) c → SeqAt.EqAt A s a c true
theorem eqt_I (a : Int) : EqT' 0 (I a) (I a) := fun A s Z1 Z2 v u _ ⟨t, e⟩ ⟨t', e'⟩ => by
  subst e e'
  have := SeqAt.EqAt.int_int (A := A) (s := s) a t a t'
  rwa [beq_self_eq_true] at this
theorem units_in1 (A : Around) : A.in1.units = A.units + 1 := rfl
theorem all_true (k : Nat) : (List.range k).all (fun _ => true) = true := by simp
theorem eqt_items {α : Type} {R : α → Sp} {xs : List α} {d : Nat} (x : ∀ a ∈ xs, EqT' d (R a) (R a)) {A : Around} {s : Shared} {Z1 Z2 : List Addr} {vs ws : Array Value} (hu : A.units + (d + 1) < 9900) (h1 : Paired (fun x v => R x (hid Z1 s.heap) v) xs vs.toList) (h2 : Paired (fun x v => R x (hid Z2 s.heap) v) xs ws.toList) :
    vs.size = ws.size ∧ ∀ j (q1 : j < vs.size) (q2 : j < ws.size), SeqAt.EqAt A.in1 s vs[j] ws[j] true := by
  have n1 : vs.size = xs.length := by have := h1.length; simp at this; lia
  have n2 : ws.size = xs.length := by have := h2.length; simp at this; lia
  refine ⟨by lia, fun j q1 q2 => ?_⟩
  obtain ⟨v, hv, hr⟩ := paired_get' h1 (i := j) (a := xs[j]'(by lia)) (by simp)
  obtain ⟨u, hu', hr'⟩ := paired_get' h2 (i := j) (a := xs[j]'(by lia)) (by simp)
  have ev : vs[j] = v := by
    rw [Array.getElem?_toList, Array.getElem?_eq_getElem q1] at hv; exact Option.some.inj hv
  have eu : ws[j] = u := by
    rw [Array.getElem?_toList, Array.getElem?_eq_getElem q2] at hu'; exact Option.some.inj hu'
  rw [ev, eu]
  exact x _ (List.getElem_mem _) A.in1 s Z1 Z2 v u (by rw [units_in1]; lia) hr hr'
theorem cmp_nelist {α : Type} {R : α → Sp} {xs : List α} {d : Nat} (x : ∀ a ∈ xs, EqT' d (R a) (R a)) (hd : d ≤ 5) (hn : 1 ≤ n) : CmpR prog w n .NotEq (Ls R xs) (Ls R xs) false := fun A s Z1 Z2 E a c rm ⟨l, vs, e, hl, hp⟩ ⟨l', ws, e', hl', hp'⟩ => by
  subst e e'
  have hu := rm.units
  obtain ⟨hs, he⟩ := eqt_items x (A := A) (s := s) (by lia) hp hp'
  exact SeqAt.RcNeAt.lists (e := fun _ => true) (plainList_sub (hid_sub Z1 _) hl).isList (plainList_sub (hid_sub Z2 _) hl').isList hs (by show A.units < 9900; lia) he prog w E _ ⟨keeps_refl s, by rw [all_true]; rfl⟩
end
end Mine
end
section
open PySem PySem.W PyProof.Rows
set_option Elab.async false
set_option maxRecDepth 100000
set_option linter.unusedVariables false
namespace Mine
open PySem.Builtin PySem.Builtin.Str PySem.StrLaws

/-! ## text is split at line ends -/
noncomputable def joinRows : List (List Nat) → List Nat
  | [] => []
  | [r] => r
  | r :: rs => r ++ 13 :: 10 :: joinRows rs
noncomputable def crlfS : Str := ⟨#[13, 10]⟩
theorem at_iff (x : Str) (i : Nat) : At x crlfS x.length i ↔ ∃ r, x.cps.toList.drop i = 13 :: 10 :: r := by
  unfold At subAt
  have e : (x.cps.extract i (i + crlfS.length) == crlfS.cps) = ((x.cps.toList.drop i).take 2 == [13, 10]) := by
    have e1 : x.cps.extract i (i + crlfS.length) = ((x.cps.toList.drop i).take 2).toArray := by
      apply Array.ext'
      rw [extract_toList, show i + crlfS.length - i = 2 by show i + 2 - i = 2; lia]
    rw [e1]
    show (_ == [13, 10].toArray) = _
    rw [List.beq_toArray]
  rw [e]
  constructor
  · rintro ⟨_, h2⟩
    rw [beq_iff_eq] at h2
    refine ⟨(x.cps.toList.drop i).drop 2, ?_⟩
    have := (List.take_append_drop 2 (x.cps.toList.drop i)).symm
    rw [h2] at this
    exact this
  · rintro ⟨r, h⟩
    refine ⟨?_, by rw [h]; rfl⟩
    have := congrArg List.length h
    simp at this
    show i + 2 ≤ x.cps.size
    lia
theorem drop_at {l a b : List Nat} {i : Nat} (h : l.drop i = a ++ b) : l.drop (i + a.length) = b := by
  rw [← List.drop_drop, h, List.drop_left]
theorem no_at {x : Str} {i j : Nat} {r s : List Nat} (h : x.cps.toList.drop i = r ++ s) (n : 13 ∉ r) (hi : i ≤ j) (hj : j < i + r.length) : ¬ At x crlfS x.length j := by
  rw [at_iff]
  rintro ⟨q, e⟩
  have : x.cps.toList.drop j = r.drop (j - i) ++ s := by
    obtain ⟨d, rfl⟩ : ∃ d, j = i + d := ⟨j - i, by lia⟩
    rw [← List.drop_drop, h, List.drop_append_of_le_length (by lia)]
    congr 2; lia
  rw [this] at e
  have hlt : 0 < (r.drop (j - i)).length := by rw [List.length_drop]; lia
  cases hq : r.drop (j - i) with
  | nil => rw [hq] at hlt; exact Nat.lt_irrefl _ hlt
  | cons c t =>
    rw [hq] at e
    injection e with e1 _
    subst e1
    exact n (List.mem_of_mem_drop (hq ▸ List.mem_cons_self))
theorem parts_rows (x : Str) : ∀ (rows : List (List Nat)) (a : Nat) (cuts : List Nat) (f : Nat), rows ≠ [] → (∀ r ∈ rows, 13 ∉ r) → a ≤ x.length → x.cps.toList.drop a = joinRows rows → ChainG x crlfS x.length a cuts f → (∀ k, f ≤ k → ¬ At x crlfS x.length k) →
    (partsFrom x 2 a cuts).map (·.cps.toList) = rows
  | [], _, _, _, h, _, _, _, _, _ => absurd rfl h
  | [r], a, cuts, f, _, hr, ha, hd, hc, hf => by
    have hd' : x.cps.toList.drop a = r ++ [] := by rw [List.append_nil]; exact hd
    have hlen : x.length = a + r.length := by have := congrArg List.length hd'; simp at this; show x.cps.size = _; have ha' : a ≤ x.cps.size := ha; lia
    cases cuts with
    | nil =>
      show [(strSub x a x.length).cps.toList] = [r]
      show [(x.cps.extract a x.length).toList] = [r]
      rw [extract_toList, hd', List.append_nil, List.take_of_length_le (by lia)]
    | cons c cs =>
      obtain ⟨h1, h2, _, _⟩ := hc
      refine absurd h2 (no_at hd' (hr r (.head _)) h1 ?_)
      have := h2.1
      have e2 : crlfS.length = 2 := rfl
      lia
  | r :: r' :: rs, a, cuts, f, _, hr, ha, hd, hc, hf => by
    have hd' : x.cps.toList.drop a = r ++ (13 :: 10 :: joinRows (r' :: rs)) := hd
    have hat : At x crlfS x.length (a + r.length) := (at_iff x _).mpr ⟨_, drop_at hd'⟩
    have hd2 : x.cps.toList.drop (a + r.length + 2) = joinRows (r' :: rs) := by
      have := drop_at hd'
      rw [← List.drop_drop, this]; rfl
    cases cuts with
    | nil =>
      have e : f = a := hc
      exact absurd hat (hf _ (by lia))
    | cons c cs =>
      obtain ⟨h1, h2, h3, h4⟩ := hc
      have hce : c = a + r.length := by
        rcases Nat.lt_trichotomy c (a + r.length) with q | q | q
        · exact absurd h2 (no_at hd' (hr r (.head _)) h1 q)
        · exact q
        · exact absurd hat (h3 _ (by lia) q)
      subst hce
      have e2 : crlfS.length = 2 := rfl
      rw [e2] at h4
      have hle : a + r.length + 2 ≤ x.length := by have := h2.1; rw [e2] at this; exact this
      have ih := parts_rows x (r' :: rs) (a + r.length + 2) cs f (by simp) (fun q m => hr q (.tail _ m)) hle hd2 h4 hf
      show (strSub x a (a + r.length)).cps.toList :: (partsFrom x 2 (a + r.length + 2) cs).map (·.cps.toList) = _
      rw [ih]
      show (x.cps.extract a (a + r.length)).toList :: _ = _
      rw [extract_toList, hd', show a + r.length - a = r.length by lia, List.take_left]
theorem split_rows (x : Str) (rows : List (List Nat)) (hne : rows ≠ []) (hr : ∀ r ∈ rows, 13 ∉ r) (hx : x.cps.toList = joinRows rows) : (Txt.split x crlfS).map (·.cps.toList) = rows := by
  obtain ⟨f, hc, hf⟩ := occ_tight x crlfS (by decide)
  have key := parts_rows x rows 0 _ f hne hr (Nat.zero_le _) hx hc hf
  have hk : Builtin.Str.strKind crlfS = 1 := by decide +kernel
  have hk1 : ¬ Builtin.Str.strKind x < Builtin.Str.strKind crlfS := by rw [hk]; unfold Builtin.Str.strKind; split <;> (try split) <;> lia
  unfold Txt.split
  rw [decide_eq_false hk1, Bool.or_false]
  by_cases h1 : x.length < crlfS.length
  · rw [if_pos (by simpa using h1)]
    have hnil : occurrences x crlfS 0 x.length (x.length + 1) = [] := by
      cases ho : occurrences x crlfS 0 x.length (x.length + 1) with
      | nil => rfl
      | cons c cs => rw [ho] at hc; have := hc.2.1.1; lia
    rw [hnil] at key
    rw [← key]
    show [x.cps.toList] = [(x.cps.extract 0 x.cps.size).toList]
    simp
  · rw [if_neg (by simpa using h1)]
    by_cases h2 : (occurrences x crlfS 0 x.length (x.length + 1)).isEmpty = true
    · rw [if_pos h2]
      rw [List.isEmpty_iff.mp h2] at key
      rw [← key]
      show [x.cps.toList] = [(x.cps.extract 0 x.cps.size).toList]
      simp
    · rw [if_neg h2, partsBetween_eq]
      exact key

section
variable {prog : Program} {w : World} {H : Heap} {env : Env} {X Z Z0 : List Addr} {μ : List (Addr × MSp)} {ρ : List (Str × Sp)} {h h' : Heap} {A : Around} {E : Value → Shared → Prop} {s : Shared} {n : Nat}
/-! ## methods of values -/
structure Meth (T : String) (name : Str) (id : String) : Prop where
  pa : PlainAttrs T
  slot : Slot T name id
  ty : typeOf (.builtin id) = pure (.type "method_descriptor")
theorem ev_meth1 {o e : Expr} {name : Str} {apos pos : Pos} {T id : String} {S1 S2 S : Sp} {Z1 Z2 : List Addr} (M : Meth T name id)
    (hbase : attributeBase o name env (eval o env) = eval o env) (hs : starEach [e] env = [(false, eval e env)]) (hline : (apos.endLine == pos.line) = true)
    (x : EV prog w n Z1 env h o S1) (m1 : Mono S1) (y : EV prog w n Z2 env h e S2)
    (hty : ∀ (s : Shared) v, S1 (hid Z1 s.heap) v → s.TypeIs v T ∧ ∀ a, v = .ref a → ∃ ob, s.heap.get? a = some ob ∧ ob.dict = none)
    (r : ∀ A (s : Shared) E u v, Rm n A → Sub h s.heap → S1 (hid Z1 s.heap) u → S2 (hid Z2 s.heap) v → wpAny (model prog w) A (call (.builtin id) [u, v]) (fun v s' => Keeps s s' ∧ S (hid Z s'.heap) v) E s) :
    EV prog w n Z env h (.Call (.Attribute o name apos) [e] [] pos) S := fun A s E rm k =>
  Call_method1 hbase hs hline (wpAny_mono (x A s E rm k) (fun u s1 ⟨k1, h1⟩ => ⟨T, id, M.pa, M.slot, M.ty, (hty s1 u h1).1, (hty s1 u h1).2,
    Calls.callWith_builtin rfl (Calls.evalArgs_plain (Calls.spliced_cons (wpAny_mono (y A s1 E rm (k.trans (ksub k1))) (fun v s2 ⟨k2, h2⟩ => Calls.spliced_nil (wpAny_mono
      (r A s2 E u v rm (k.trans ((ksub k1).trans (ksub k2))) (m1 _ _ _ (hid_sub_mono (ksub k2)) h1) h2) (fun v s3 ⟨k3, h3⟩ => ⟨ktr (ktr k1 k2) k3, h3⟩) fun _ _ e => e)) fun _ _ e => e)))⟩) fun _ _ e => e)
theorem ev_methS {o e : Expr} {name : Str} {apos pos : Pos} {id : String} {l : List Nat} {S2 S : Sp} {Z2 : List Addr} (M : Meth "str" name id)
    (hbase : attributeBase o name env (eval o env) = eval o env) (hs : starEach [e] env = [(false, eval e env)]) (hline : (apos.endLine == pos.line) = true)
    (x : EV prog w n [] env h o (Tl l)) (y : EV prog w n Z2 env h e S2)
    (r : ∀ A (s : Shared) E x t v, Rm n A → Sub h s.heap → x.cps.toList = l → S2 (hid Z2 s.heap) v → wpAny (model prog w) A (call (.builtin id) [.str x t, v]) (fun v s' => Keeps s s' ∧ S (hid Z s'.heap) v) E s) :
    EV prog w n Z env h (.Call (.Attribute o name apos) [e] [] pos) S :=
  ev_meth1 M hbase hs hline x (mono_Tl _) y (fun s v ⟨x, t, e, _⟩ => ⟨by subst e; exact typeIs_str s x t, fun a e' => by rw [e] at e'; cases e'⟩) fun A s E u v rm k ⟨x, t, e, q⟩ h2 => by subst e; exact r A s E x t v rm k q h2
theorem meth_join : Meth "str" "join" "str.join" := ⟨F.plainAttrs_str, F.slot_str_join, F.type_str_join⟩
theorem meth_split : Meth "str" "split" "str.split" := ⟨F.plainAttrs_str, F.slot_str_split, F.type_str_split⟩
theorem meth_lstrip : Meth "str" "lstrip" "str.lstrip" := ⟨F.plainAttrs_str, F.slot_str_lstrip, F.type_str_lstrip⟩
theorem strs_of {h : Heap} : ∀ {xs : List (List Nat)} {vs : List Value}, Paired (fun x v => Tl x h v) xs vs → ∃ l : List (Str × Tok), vs = strValues l ∧ l.map (·.1.cps.toList) = xs
  | _, _, .nil => ⟨[], rfl, rfl⟩
  | _, _, .cons ⟨x, t, e, q⟩ r => by
    subst e q
    obtain ⟨l, rfl, rfl⟩ := strs_of r
    exact ⟨(x, t) :: l, rfl, rfl⟩
theorem ev_join {o e : Expr} {apos pos : Pos} {xs : List (List Nat)} (hbase : attributeBase o "join" env (eval o env) = eval o env) (hs : starEach [e] env = [(false, eval e env)]) (hline : (apos.endLine == pos.line) = true)
    (x : EV prog w n [] env h o (Tl [])) (y : EV prog w n [] env h e (Ls Tl xs)) (hb : xs.flatten.length ≤ 2 ^ 24) : EV prog w n Z env h (.Call (.Attribute o "join" apos) [e] [] pos) (Tl xs.flatten) :=
  ev_methS meth_join hbase hs hline x y fun A s E x t v rm k hx ⟨a, vs, e, hl, hp⟩ => by
    subst e
    obtain ⟨l, hv, hm⟩ := strs_of hp
    have hxe : x = ⟨#[]⟩ := by obtain ⟨c⟩ := x; exact congrArg Str.mk (Array.ext' hx)
    subst hxe
    have hl' : s.heap.IsList a (strValues l).toArray := by rw [← hv]; exact (plainList_sub (hid_sub [] _) hl).isList
    have hf : flat (l.map (·.1)) = xs.flatten := by
      rw [← hm]; unfold flat; rw [List.flatMap_map, List.flatMap_def]
    refine SC.join hl' rfl (joinOk_of _ (by rw [hf]; exact hb)) fun t' k' => ⟨keeps_tok s k', _, t', rfl, by rw [join_toList, hf]⟩
theorem call_split1 {x y : Str} {t u : Tok} {Q : Value → Shared → Prop} (hy : (y.length == 0) = false)
    (hq : ∀ l k, l.map (·.1) = Txt.split x y → Q (.ref s.heap.objs.size) { s with heap := s.heap.push { cls := .type "list", data := .seq (strValues l).toArray }, toks := k })
    (hsz : x.length ≤ sizeLine) (hsz2 : (partsBetween x (occurrences x y 0 x.length (x.length + 1)) y.length).length ≤ sizeLine) :
    wpAny (model prog w) A (call (.builtin "str.split") [.str x t, .str y u]) Q E s := by
  cases h1 : (decide (x.length < y.length) || decide (Builtin.Str.strKind x < Builtin.Str.strKind y))
  · cases hf : (occurrences x y 0 x.length (x.length + 1)).isEmpty
    · refine call_meets F.slot_str_split (typeIs_str _ _ _) F.entry_str_split (F.args_str_split_2 _ _) (meets_str_split_sep x y t u h1 hy hf hsz hsz2) ?_
      show wants Q E _ { s with toks := _, heap := s.heap.push { cls := .type "list", data := .seq (strsFrom s.toks (partsBetween x (occurrences x y 0 x.length (x.length + 1)) y.length)).toArray } }
      rw [strsFrom_eq]
      exact hq (numbered s.toks _) _ ((numbered_texts _ _).trans ((if_neg (ne_true_of_eq_false h1)).trans (if_neg (ne_true_of_eq_false hf))).symm)
    · exact call_meets F.slot_str_split (typeIs_str _ _ _) F.entry_str_split (F.args_str_split_2 _ _) (meets_str_split_not_found x y t u h1 hy hf)
        (hq [(x, t)] s.toks ((if_neg (ne_true_of_eq_false h1)).trans (if_pos hf)).symm)
  · exact call_meets F.slot_str_split (typeIs_str _ _ _) F.entry_str_split (F.args_str_split_2 _ _) (meets_str_split_cannot_occur x y t u h1)
      (hq [(x, t)] s.toks (if_pos h1).symm)
theorem strs_to {h : Heap} : ∀ (l : List (Str × Tok)), Paired (fun x v => Tl x h v) (l.map (·.1.cps.toList)) (strValues l)
  | [] => .nil
  | (x, t) :: l => .cons ⟨x, t, rfl, rfl⟩ (strs_to l)
theorem ev_split {o e : Expr} {apos pos : Pos} {rows : List (List Nat)} (zl : Zl h Z) (hbase : attributeBase o "split" env (eval o env) = eval o env) (hs : starEach [e] env = [(false, eval e env)]) (hline : (apos.endLine == pos.line) = true)
    (x : EV prog w n [] env h o (Tl (joinRows rows))) (y : EV prog w n [] env h e (Tl [13, 10])) (hne : rows ≠ []) (hr : ∀ r ∈ rows, 13 ∉ r) (hb : (joinRows rows).length ≤ 2 ^ 20) : EV prog w n Z env h (.Call (.Attribute o "split" apos) [e] [] pos) (Ls Tl rows) :=
  ev_methS meth_split hbase hs hline x y fun A s E x t v rm k hx ⟨y, u, e, q⟩ => by
    subst e
    have hye : y = crlfS := by obtain ⟨c⟩ := y; exact congrArg Str.mk (Array.ext' q)
    subst hye
    have hsp := split_rows x rows hne hr hx
    have hxl : x.length ≤ 2 ^ 20 := by rw [← hx] at hb; simpa [Str.length] using hb
    refine call_split1 rfl (fun l k' hl => ?_) (by rw [show sizeLine = 16777216 from rfl]; lia) ?_
    · refine ⟨keeps_push s _ k', _, _, rfl, ⟨0, fresh_hid (zl_sub zl k) (Heap.get?_push_size _ rfl)⟩, ?_⟩
      have e : l.map (·.1.cps.toList) = rows := by
        rw [← hsp, ← hl, List.map_map]; rfl
      rw [← e]
      exact strs_to l
    · rw [partsBetween_eq]
      have : ∀ (cuts : List Nat) (a : Nat), (partsFrom x crlfS.length a cuts).length = cuts.length + 1 := by
        intro cuts
        induction cuts with
        | nil => intro a; rfl
        | cons c r ih => intro a; show (partsFrom x crlfS.length _ r).length + 1 = _; rw [ih]; rfl
      rw [this]
      have := occ_length_le x crlfS 0 x.length (x.length + 1)
      rw [show sizeLine = 16777216 from rfl]; lia
end
end Mine
end
section
open PySem PySem.W PyProof.Rows
set_option Elab.async false
set_option maxRecDepth 100000
set_option linter.unusedVariables false
namespace Mine
section
variable {prog : Program} {w : World} {A : Around} {E : Value → Shared → Prop} {R : Result → Shared → Prop} {s : Shared}

theorem codeAny_compLoop_go {elt target iter : Expr} {ifs : List Expr} {scope : Scope} {pos : Pos} {it acc : Value} {env : Env} (I : Nat → Shared → Prop)
    (turn : ∀ n s, I n s → wpAny (model prog w) A (pyNext it) (fun r s₁ => match r with
      | none => R (.ok .next) s₁
      | some v => wpAny (model prog w) A (letOwnedTupleGo target it v) (fun _ s₁ => wpAny (model prog w) A (assign target env v) (fun _ s₂ =>
          wpAny (model prog w) A (testsT ifs env) (fun ok s₃ =>
            if ok = true then wpAny (model prog w) A (eval elt env) (fun x s₄ =>
              wpAny (model prog w) A (call (.builtin "list.append") [acc, x]) (fun _ s₅ => ∃ m, m < n ∧ I m s₅) (notedBy (model prog w) A env fun e s' => R (.error e) s') s₄) (notedBy (model prog w) A env fun e s' => R (.error e) s') s₃
            else ∃ m, m < n ∧ I m s₃) (notedBy (model prog w) A env fun e s' => R (.error e) s') s₂) (notedBy (model prog w) A env fun e s' => R (.error e) s') s₁) (notedBy (model prog w) A env fun e s' => R (.error e) s') s₁) (notedBy (model prog w) A env fun e s' => R (.error e) s') s)
    (n : Nat) (h : I n s) :
    codeAny (model prog w) A (.compLoop (.ListComp elt [⟨target, iter, ifs, 0⟩] scope pos) 0 it acc env) R s := by
  refine codeAny_loop rfl I (fun n s hI => ?_) n h
  show wpAny _ A ((compTurn (.ListComp elt [⟨target, iter, ifs, 0⟩] scope pos) 0 it acc env).onRaise (fun x => do noteFrame x env; theTreesLotGoes x)) _ _ s
  refine wpAny_noted ?_
  rw [compTurn_list]
  refine wpAny_bind (wpAny_standAt (wpAny_bind (wpAny_mono (turn n s hI) (fun r s₁ h₁ => ?_) fun _ _ h' => h')))
  cases r with
  | none => exact wpAny_pure h₁
  | some v =>
    refine wpAny_bind (wpAny_mono h₁ (fun _ s₁' h₁' => ?_) fun _ _ h' => h')
    refine wpAny_bind (wpAny_mono h₁' (fun _ s₂ h₂ => wpAny_bind (wpAny_mono h₂ (fun ok s₃ h₃ => ?_) fun _ _ h' => h')) fun _ _ h' => h')
    cases ok with
    | false => exact wpAny_pure ⟨rfl, h₃⟩
    | true =>
      exact wpAny_bind (wpAny_bind (wpAny_mono h₃ (fun x s₄ h₄ => wpAny_bind (wpAny_mono h₄ (fun _ s₅ h₅ => wpAny_pure (wpAny_pure ⟨rfl, h₅⟩)) fun _ _ h' => h')) fun _ _ h' => h'))

/-- the loop of a comprehension: any target, elements that may turn Tn -/
theorem comp_loopG {α β : Type} {R' : β → Sp} {xs : List α} {p : α → Bool} {f : α → β} {Bd : α → (Str → Option Value) → Prop} {env : Env} {elt target iter : Expr} {ifs : List Expr} {scope : Scope} {cl : List (Str × Addr)} {pos : Pos}
    {s₂ : Shared} {I : Addr} {fp Z Tn : List Addr} {P : Nat → Value → Prop} {St : Nat → Heap → Prop} {J : Addr → Addr → Nat → Heap → Prop} {RR : Value → Addr → Result → Shared → Prop}
    (W : Walks prog w A I fp [I] xs.length P St) (hst : St 0 s₂.heap) (hfp : ∀ b ∈ fp, b < s₂.heap.objs.size) (hI : I < s₂.heap.objs.size)
    (mR' : ∀ b, Mono (R' b)) (hsz : xs.length ≤ sizeLine) (hcell : ∀ y ∈ scope.names, y.2 ≠ .cell) (hkind : scope.kind = .function)
    (lo : ∀ A' i i' u Q' E' (s'' : Shared), P i u → St i' s''.heap → Q' () s'' → wpAny (model prog w) A' (letOwnedTupleGo target (.ref I) u) Q' E' s'') (alv : ∀ i h, St i h → ∃ o, h.get? I = some o)
    (tnf : ∀ b ∈ fp, b ∉ Tn) (tnz : ∀ b ∈ Tn, b ∈ Z) (tnI : I ∉ Tn) (tnlt : ∀ b ∈ Tn, b < s₂.heap.objs.size)
    (tgt : ∀ (i : Nat) u C D s₃ m₃ (Q : Unit → Shared → Prop) E', P i u → s₂.heap.objs.size ≤ D → D < C → s₃.heap.Ns C m₃ → (∀ b o, b ∉ Tn → b ≠ C → b ≠ D → b ≠ I → s₂.heap.get? b = some o → s₃.heap.get? b = some o) →
      (∀ a h₄ m₄ tk, xs[i]? = some a → Bd a m₄ → h₄.Ns C m₄ → (∀ b o, b ≠ C → s₃.heap.get? b = some o → h₄.get? b = some o) → Q () { s₃ with heap := h₄, toks := tk }) → wpAny (model prog w) A (assign target (compEnvC scope cl C env) u) Q E' s₃)
    (J0 : ∀ C D h, s₂.heap.objs.size ≤ D → D < C → Sub s₂.heap h → J C D 0 h)
    (Jm : ∀ C D i h h', s₂.heap.objs.size ≤ D → D < C → (∀ b o, b ≠ C → b ≠ D → b ≠ I → h.get? b = some o → h'.get? b = some o) → J C D i h → J C D i h')
    (Jf : ∀ C D i a h, xs[i]? = some a → p a = false → J C D i h → J C D (i + 1) h)
    (tests : ∀ (i : Nat) a C D s₃ m₃ E', xs[i]? = some a → Bd a m₃ → s₂.heap.objs.size ≤ D → D < C → s₃.heap.Ns C m₃ → (∀ b ∈ [D, C, I], ∃ o, s₃.heap.get? b = some o) → (∀ b o, b ∉ Tn → b ≠ C → b ≠ D → b ≠ I → s₂.heap.get? b = some o → s₃.heap.get? b = some o) → J C D i s₃.heap →
      wpAny (model prog w) A (testsT ifs (compEnvC scope cl C env)) (fun ok s₄ => ok = p a ∧ Keeps s₃ s₄) E' s₃)
    (helt : ∀ (i : Nat) a C D s₃ m₃ E', xs[i]? = some a → p a = true → Bd a m₃ → s₂.heap.objs.size ≤ D → D < C → s₃.heap.Ns C m₃ → (∀ b ∈ [D, C, I], ∃ o, s₃.heap.get? b = some o) → (∀ b o, b ∉ Tn → b ≠ C → b ≠ D → b ≠ I → s₂.heap.get? b = some o → s₃.heap.get? b = some o) → J C D i s₃.heap →
      wpAny (model prog w) A (eval elt (compEnvC scope cl C env)) (fun y s₄ => Like s₃ s₄ ∧ (∀ b o, b ∉ Tn → s₃.heap.get? b = some o → s₄.heap.get? b = some o) ∧ J C D (i + 1) s₄.heap ∧ R' (f a) (hid (D :: C :: I :: Z) s₄.heap) y) E' s₃)
    (hRR : ∀ D C h' tk m' ys, s₂.heap.objs.size ≤ D → D < C → h'.Ns C m' → h'.PlainList D ys → Paired (fun b v => R' b (hid (D :: C :: I :: Z) h') v) ((xs.filter p).map f) ys.toList →
      (∀ b o, b ∉ Tn → b ≠ C → b ≠ D → b ≠ I → s₂.heap.get? b = some o → h'.get? b = some o) → J C D xs.length h' → RR (.ref D) C (.ok .next) { s₂ with heap := h', toks := tk }) :
    wpAny (model prog w) A (newList []) (fun acc s₃ => wpAny (model prog w) A (newFunctionEnv scope env.globals cl [] env.qual none .none (some env)) (fun cenv s₄ =>
      codeAny (model prog w) A (.compStart (.ListComp elt [⟨target, iter, ifs, 0⟩] scope pos) 0 (.ref I) acc { cenv with scope := relabel scope env }) (RR acc cenv.locals) s₄) E s₃) E s₂ := by
  refine wpAny_newObj_type (wpAny_newFunctionEnv hcell (by intro y hy; simp at hy) (fun h₁ hns₁ hsb₁ => ?_) hkind)
  dsimp only at hns₁ hsb₁ ⊢
  generalize hH2 : s₂.heap.push { cls := .type "list", dict := none, data := .seq ([] : List Value).toArray } = H2 at hns₁ hsb₁ ⊢
  have hC : H2.objs.size = s₂.heap.objs.size + 1 := by rw [← hH2, Heap.size_push]
  have hDltC : s₂.heap.objs.size < H2.objs.size := by rw [hC]; exact Nat.lt_succ_self _
  have hDC : s₂.heap.objs.size ≠ H2.objs.size := Nat.ne_of_lt hDltC
  have hDI : s₂.heap.objs.size ≠ I := Nat.ne_of_gt hI
  have hIC : I ≠ H2.objs.size := Nat.ne_of_lt (Nat.lt_trans hI hDltC)
  have below : ∀ b, b < s₂.heap.objs.size → b ≠ H2.objs.size ∧ b ≠ s₂.heap.objs.size := fun b hb => ⟨Nat.ne_of_lt (Nat.lt_trans hb hDltC), Nat.ne_of_lt hb⟩
  have hDf : s₂.heap.objs.size ∉ fp := fun hm => Nat.lt_irrefl _ (hfp _ hm)
  have hCf : H2.objs.size ∉ fp := fun hm => Nat.lt_irrefl _ (Nat.lt_trans hDltC (hfp _ hm))
  have hDT : s₂.heap.objs.size ∉ Tn := fun hm => Nat.lt_irrefl _ (tnlt _ hm)
  have hCT : H2.objs.size ∉ Tn := fun hm => Nat.lt_irrefl _ (Nat.lt_trans hDltC (tnlt _ hm))
  have old : ∀ b o, s₂.heap.get? b = some o → h₁.get? b = some o := fun b o e => hsb₁.extBut b o (below b (Heap.lt_size e)).1 (Heap.get?_push_of_some _ (hH2 ▸ Heap.get?_push_of_some _ e))
  have hacc : h₁.PlainList s₂.heap.objs.size #[] := ⟨_, hsb₁.extBut _ _ hDC (Heap.get?_push_of_some _ (hH2 ▸ Heap.get?_push_size _ rfl))⟩
  have hst₁ : St 0 h₁ := W.frame _ _ _ hst fun b _ o e => old b o e
  generalize hDd : s₂.heap.objs.size = D at *
  generalize hCd : H2.objs.size = C at *
  have lv : ∀ {i h ys m}, St i h → h.PlainList D ys → h.Ns C m → ∀ b ∈ [D, C, I], ∃ o, h.get? b = some o := fun a1 a2 a3 b hb => by
    simp only [List.mem_cons, List.not_mem_nil, or_false] at hb
    rcases hb with rfl | rfl | rfl
    · obtain ⟨_, e⟩ := a2; exact ⟨_, e⟩
    · obtain ⟨o, _, _, e, _⟩ := a3; exact ⟨o, e⟩
    · exact alv _ _ a1
  have loop : ∀ s₃ : Shared, s₃ = { s₂ with heap := h₁, toks := s₂.toks + ([] : List (Str × Value)).length } →
      codeAny (model prog w) A (.compLoop (.ListComp elt [⟨target, iter, ifs, 0⟩] scope pos) 0 (.ref I) (.ref D) (compEnvC scope cl C env)) (RR (.ref D) C) s₃ := by
    rintro s₃ rfl
    refine codeAny_compLoop_go
      (fun k s' => ∃ h' tk m' ys i, s' = { s₂ with heap := h', toks := tk } ∧ St i h' ∧ h'.PlainList D ys ∧ h'.Ns C m' ∧
        Paired (fun b v => R' b (hid (D :: C :: I :: Z) h') v) (((xs.take i).filter p).map f) ys.toList ∧ i ≤ xs.length ∧ k = xs.length + 1 - i ∧
        (∀ b o, b ∉ Tn → b ≠ C → b ≠ D → b ≠ I → s₂.heap.get? b = some o → h'.get? b = some o) ∧ J C D i h') ?_ (xs.length + 1)
      ⟨h₁, _, _, #[], 0, rfl, hst₁, hacc, hns₁, by simpa using Paired.nil, Nat.zero_le _, rfl, fun b o _ _ _ _ e => old b o e, J0 _ _ _ (Nat.le_refl _) hDltC old⟩
    rintro k s' ⟨H, tk, m', ys, i, rfl, hst', hacc', hn', hF, hi, rfl, hk, hJ⟩
    by_cases hlt : i < xs.length
    · refine W.item i _ _ _ hlt hst' fun v h₃ tk₃ hPv hst₃ hk₃ => ?_
      have nI : ∀ {b}, b ≠ I → b ∉ [I] := fun hb hm => hb (by simpa using hm)
      refine lo A i (i + 1) v _ _ _ hPv hst₃ ?_
      refine tgt i v C D _ m' _ _ hPv (Nat.le_refl _) hDltC (hn'.at' fun o e => hk₃ _ o (nI (Ne.symm hIC)) e) (fun b o a0 a1 a2 a3 e => hk₃ b o (nI a3) (hk b o a0 a1 a2 a3 e)) fun a h₄ m₄ tk₄ ha hB hn₄ hs₄ => ?_
      have up₄ : ∀ b o, b ≠ C → b ≠ I → H.get? b = some o → h₄.get? b = some o := fun b o hbC hbI e => hs₄ b o hbC (hk₃ b o (nI hbI) e)
      have k₄ : ∀ b o, b ∉ Tn → b ≠ C → b ≠ D → b ≠ I → s₂.heap.get? b = some o → h₄.get? b = some o := fun b o a0 a1 a2 a3 e => up₄ b o a1 a3 (hk b o a0 a1 a2 a3 e)
      have hst₄ : St (i + 1) h₄ := W.frame _ _ _ hst₃ fun b hb o e => hs₄ b o (fun (h : b = C) => hCf (h ▸ hb)) e
      have hJ₄ : J C D i h₄ := Jm _ _ _ _ _ (Nat.le_refl _) hDltC (fun b o a1 a2 a3 e => up₄ b o a1 a3 e) hJ
      have hacc₄ := hacc'.at fun o e => up₄ D o hDC hDI e
      refine wpAny_mono (tests i a C D _ _ _ ha hB (Nat.le_refl _) hDltC hn₄ (lv hst₄ hacc₄ hn₄) k₄ hJ₄) (fun ok s₅ h₅ => ?_) fun _ _ e => e
      obtain ⟨rfl, h₅, tk₅, rfl, hk₅⟩ := h₅
      have hJ₅ : J C D i h₅ := Jm _ _ _ _ _ (Nat.le_refl _) hDltC (fun b o a1 a2 a3 e => hk₅ b o e) hJ₄
      have hst₅ : St (i + 1) h₅ := W.frame _ _ _ hst₄ fun b _ o e => hk₅ b o e
      have hacc₅ := hacc₄.at fun o e => hk₅ _ o e
      have kz : ∀ {h h'' : Heap}, (∀ b o, b ∉ Tn → b ≠ C → b ≠ I → h.get? b = some o → h''.get? b = some o) → Sub (hid (D :: C :: I :: Z) h) (hid (D :: C :: I :: Z) h'') := fun q => hid_mono fun b o hb e => q b o (fun m => hb (by simp [tnz b m])) (fun h => hb (by simp [h])) (fun h => hb (by simp [h])) e
      have tk1 : xs.take (i + 1) = xs.take i ++ [a] := by rw [List.take_add_one, ha]; rfl
      cases hpv : p a with
      | false =>
        simp only [Bool.false_eq_true, if_false]
        refine ⟨_, by lia, h₅, tk₅, _, ys, i + 1, rfl, hst₅, hacc₅, hn₄.keeps hk₅, ?_, hlt, rfl, fun b o a0 a1 a2 a3 e => hk₅ b o (k₄ b o a0 a1 a2 a3 e), Jf _ _ _ _ _ ha hpv hJ₅⟩
        rw [tk1, List.filter_append, List.filter_cons, hpv]
        simp only [Bool.false_eq_true, if_false, List.filter_nil, List.append_nil]
        exact paired_imp (fun b v q => mR' b _ _ _ (kz fun b o _ a1 a2 e => hk₅ b o (up₄ b o a1 a2 e)) q) hF
      | true =>
        simp only [if_true]
        refine wpAny_mono (helt i a C D _ _ _ ha hpv hB (Nat.le_refl _) hDltC (hn₄.keeps hk₅) (lv hst₅ hacc₅ (hn₄.keeps hk₅)) (fun b o a0 a1 a2 a3 e => hk₅ b o (k₄ b o a0 a1 a2 a3 e)) hJ₅) (fun y s₆ h₆ => ?_) fun _ _ e => e
        obtain ⟨⟨h₆, tk₆, rfl⟩, hk₆, hJ₆, hy⟩ := h₆
        have hys : ys.size ≤ sizeLine := by
          have e1 := hF.length
          rw [List.length_map] at e1
          have e2 : ((xs.take i).filter p).length ≤ (xs.take i).length := List.length_filter_le _ _
          have e3 : (xs.take i).length ≤ xs.length := by rw [List.length_take]; lia
          have e4 : ys.toList.length = ys.size := by simp
          lia
        refine wpAny_list_append_plain (hsz := hys) (hacc₅.at fun o e => hk₆ _ o hDT e) fun h₇ hl₇ hs₇ => ?_
        have k7 : Sub (hid (D :: C :: I :: Z) h₆) (hid (D :: C :: I :: Z) h₇) := hid_mono fun b o hb e => hs₇.extBut b o (fun h => hb (by simp [h])) e
        refine ⟨_, by lia, h₇, tk₆, _, ys.push y, i + 1, rfl, ?_, hl₇, ((hn₄.keeps hk₅).at' fun o e => hk₆ _ o hCT e).sameBut hs₇ (Ne.symm hDC), ?_, hlt, rfl, fun b o a0 a1 a2 a3 e => hs₇.extBut b o a2 (hk₆ b o a0 (hk₅ b o (k₄ b o a0 a1 a2 a3 e))), Jm _ _ _ _ _ (Nat.le_refl _) hDltC (fun b o a1 a2 a3 e => hs₇.extBut b o a2 e) hJ₆⟩
        · exact W.frame _ _ _ hst₅ fun b hb o e => hs₇.extBut b o (fun h => hDf (h ▸ hb)) (hk₆ b o (tnf b hb) e)
        · rw [tk1, List.filter_append, List.filter_cons, hpv]
          simp only [if_true, List.filter_nil, List.map_append, List.map_cons, List.map_nil, Array.toList_push]
          refine Paired.snoc (paired_imp (fun b v q => mR' b _ _ _ k7 (mR' b _ _ _ (kz fun b o a0 a1 a2 e => hk₆ b o a0 (hk₅ b o (up₄ b o a1 a2 e))) q)) hF) ?_
          exact mR' _ _ _ _ k7 hy
    · have hin : i = xs.length := by lia
      subst hin
      refine W.done _ _ _ hst' fun h₃ tk₃ hk₃ => ?_
      have nI : ∀ {b}, b ≠ I → b ∉ [I] := fun hb hm => hb (by simpa using hm)
      refine hRR D C h₃ tk₃ m' ys (Nat.le_refl _) hDltC (hn'.at' fun o e => hk₃ _ o (nI (Ne.symm hIC)) e) (hacc'.at fun o e => hk₃ _ o (nI hDI) e) ?_ (fun b o a0 a1 a2 a3 e => hk₃ b o (nI a3) (hk b o a0 a1 a2 a3 e)) (Jm _ _ _ _ _ (Nat.le_refl _) hDltC (fun b o a1 a2 a3 e => hk₃ b o (nI a3) e) hJ)
      rw [List.take_length] at hF
      exact paired_imp (fun b v q => mR' b _ _ _ (hid_mono fun b o hb e => hk₃ b o (nI fun h => hb (by simp [h])) e) q) hF
  exact codeAny_compStart_list (loop _ rfl) (W.self 0 _ _ _ hst₁ (loop _ rfl))
end
end Mine
end
section
open PySem PySem.W PyProof.Rows
set_option Elab.async false
set_option maxRecDepth 100000
set_option linter.unusedVariables false
namespace Mine
section
variable {prog : Program} {w : World}

/-- what a target stores within a comprehension's block -/
noncomputable def TG (prog : Program) (w : World) (env : Env) (scope : Scope) {α : Type} (target : Expr) (R : α → Sp) (ρx : α → List (Str × Sp)) : Prop :=
  ∀ cl C A (s : Shared) m a u hp (Q : Unit → Shared → Prop) E, A.handled = none → R a hp u → Sub hp s.heap → s.heap.Ns C m → hp.get? C = none →
    (∀ h₄ m₄ tk, (∀ x S, (ρx a).lookup x = some S → ∃ v, m₄ x = some v ∧ S hp v) → h₄.Ns C m₄ → (∀ b o, b ≠ C → s.heap.get? b = some o → h₄.get? b = some o) → Q () { s with heap := h₄, toks := tk }) →
    wpAny (model prog w) A (assign target (compEnvC scope cl C env) u) Q E s
theorem tg_name {env : Env} {scope : Scope} {α : Type} {R : α → Sp} {x : Str} {px : Pos} (hkind : scope.kind = .function) (hx : scope.names.lookup x = some .local) : TG prog w env scope (.Name x px) R (fun a => [(x, R a)]) :=
  fun cl C A s m a u hp Q E hh hR k hn hC q => by
  refine wpAny_assign_Name (wpAny_storeName_local (env := compEnvC scope cl C env) (lookup_relabel_local hx) hn (fun h₄ hn₄ hs₄ => ?_) (by simp [compEnvC, relabel, hkind]))
  refine q h₄ _ _ (fun y S e => ?_) hn₄ fun b o hb e => hs₄.extBut b o hb e
  rw [List.lookup_cons] at e
  cases hb : y == x with
  | true => rw [hb] at e; cases e; have := beq_iff_eq.mp hb; subst this; exact ⟨u, by simp, hR⟩
  | false => rw [hb] at e; cases e
theorem lookup_app {β : Type} {x : Str} : ∀ (a b : List (Str × β)), (a ++ b).lookup x = (a.lookup x).or (b.lookup x)
  | [], b => rfl
  | (y, S) :: a, b => by
    rw [List.cons_append, List.lookup_cons, List.lookup_cons]
    cases x == y with
    | true => rfl
    | false => exact lookup_app a b
theorem cap_locG {env : Env} {scope : Scope} {ρ ρc ρx : List (Str × Sp)} {Z Z' : List Addr} {h h' : Heap} {C : Addr} {m : Str → Option Value} (L : Loc env Z ρ h) (c : Cap env scope ρ ρc)
    (hs : ∀ x ∈ scope.names, x.2 = .free → (env.cells.lookup x.1).isSome = true) (hkind : scope.kind = .function)
    (k : Sub (hid Z h) (hid Z' h')) (kf : Sub h h') (hn : h'.Ns C m) (hx : ∀ x S, ρx.lookup x = some S → scope.names.lookup x = some .local ∧ Mono S ∧ ∃ u, m x = some u ∧ S (hid Z' h') u) : Loc (compEnvC scope (clFold env.cells scope.names []) C env) Z' (ρx ++ ρc) h' where
  kind := by simp [compEnvC, relabel, hkind]
  vars := fun y S e => by
    rw [lookup_app] at e
    cases hb : ρx.lookup y with
    | some S' =>
      rw [hb] at e; cases e
      obtain ⟨hl, mS, u, hm, hS⟩ := hx y S hb
      exact ⟨mS, u, .loc (lookup_relabel_local hl) hn hm, hS⟩
    | none =>
      rw [hb, Option.none_or] at e
      obtain ⟨e1, e2, e3⟩ := c.get e
      obtain ⟨mS, v, hv, hS⟩ := L.vars y S e1
      refine ⟨mS, v, ?_, mS _ _ _ k hS⟩
      cases hv with
      | loc hl _ _ => rw [hl] at e3; rcases e3 with q | q <;> cases q; contradiction
      | cell hl hc hv =>
        have look : (compEnvC scope (clFold env.cells scope.names []) C env).cells.lookup y = some _ := (clFold_look scope.names [] (fun _ q => by simp at q) hs (.inl e2)).trans hc
        refine .cell ?_ look (hv.keeps kf)
        have := relabel_free (env := env) e2
        rcases e3 with q | q
        · left
          refine this.trans ?_
          simp [L.kind, q]
        · right
          refine ⟨this.trans ?_, q.2⟩
          simp [q.1]

structure ScG (scope : Scope) (env : Env) : Prop where
  free : ∀ y ∈ scope.names, y.2 = .free → (env.cells.lookup y.1).isSome = true
  cell : ∀ y ∈ scope.names, y.2 ≠ .cell
  kind : scope.kind = .function
  names : ∀ y ∈ scope.names, y.2 = .local → scope.names.lookup y.1 = some .local

variable {α β : Type} {R : α → Sp} {R' : β → Sp} {xs : List α} {p : α → Bool} {f : α → β} {ρx : α → List (Str × Sp)} {env : Env} {target elt iter : Expr} {x : Str} {px : Pos} {ifs : List Expr} {scope : Scope} {pos : Pos} {n : Nat} {Z Zr : List Addr} {h : Heap} {ρ ρc : List (Str × Sp)} {S : Sp}
theorem comp_core {use : Option (Value → Sem Unit)} {Q : Value → Shared → Prop} {A : Around} {E : Value → Shared → Prop} {s : Shared} (L : Loc env Z ρ h) (ev : EV prog w n Z env h iter S) (it : Itr prog w R xs S) (mR' : ∀ b, Mono (R' b)) (hsz : xs.length ≤ sizeLine)
    (sc : ScG scope env) (cp : Cap env scope ρ ρc) (hs : ∀ x, foldedSetIterable iter env x = pure x) (zl : Zl h Zr)
    (tg : TG prog w env scope target R ρx) (hρx : ∀ a x S, (ρx a).lookup x = some S → scope.names.lookup x = some .local ∧ Mono S)
    (tests : ∀ (i : Nat) a C D I h', xs[i]? = some a → Sub h h' → Loc (compEnvC scope (clFold env.cells scope.names []) C env) (D :: C :: I :: Z) (ρx a ++ ρc) h' → Zl h' (D :: C :: I :: Zr) →
      EVts prog w n (compEnvC scope (clFold env.cells scope.names []) C env) h' ifs (p a))
    (helt : ∀ (i : Nat) a C D I h', xs[i]? = some a → p a = true → Sub h h' → Loc (compEnvC scope (clFold env.cells scope.names []) C env) (D :: C :: I :: Z) (ρx a ++ ρc) h' → Zl h' (D :: C :: I :: Zr) →
      EV prog w n (D :: C :: I :: Zr) (compEnvC scope (clFold env.cells scope.names []) C env) h' elt (R' (f a)))
    (rm : Rm n A) (kh : Sub h s.heap) (fin : ∀ D C m' s', Keeps s s' → s.heap.get? C = none → s'.heap.Ns C m' → Ls R' ((xs.filter p).map f) (hid (C :: Zr) s'.heap) (.ref D) → compPost (model prog w) A E use Q (.ref D) C (.ok .next) s') :
    wpAny (model prog w) A (comprehension (.ListComp elt [⟨target, iter, ifs, 0⟩] scope pos) scope env (firstIterPos [⟨target, iter, ifs, 0⟩] pos) (newList []) false (eval iter env) use) Q E s := by
  refine wpAny_comprehension_free rfl hs (closureFor_is sc.free) sc.kind sc.names (wpAny_mono (ev A s E rm kh) (fun xv s₁ ⟨k₁, h₁⟩ => ?_) fun _ _ e => e)
  refine it A s₁ xv Z _ E rm.hh h₁ fun I fp P St s₂ k₂ hI hfp W hst hP lo alv => ?_
  have hI2 : I < s₂.heap.objs.size := by
    by_cases hm : I ∈ fp
    · exact (hfp I hm).1
    · exact absurd (W.sub I (by simp)) hm
  have k02 : Sub s.heap s₂.heap := (ksub k₁).trans (ksub k₂)
  have k01 : Sub h s₁.heap := kh.trans (ksub k₁)
  have up : ∀ {C D : Addr} {h' : Heap}, s₂.heap.objs.size ≤ D → D < C → (∀ b o, b ≠ C → b ≠ D → b ≠ I → s₂.heap.get? b = some o → h'.get? b = some o) → Sub s₁.heap h' := fun hD hC k b o e =>
    have hb := Heap.lt_size e
    have hb2 := Heap.lt_size (ksub k₂ _ _ e)
    k b o (Nat.ne_of_lt (Nat.lt_trans (Nat.lt_of_lt_of_le hb2 hD) hC)) (Nat.ne_of_lt (Nat.lt_of_lt_of_le hb2 hD)) (Nat.ne_of_lt (Nat.lt_of_lt_of_le hb hI)) (ksub k₂ _ _ e)
  have upz : ∀ {C D : Addr} {h' : Heap}, s₂.heap.objs.size ≤ D → D < C → (∀ b o, b ≠ C → b ≠ D → b ≠ I → s₂.heap.get? b = some o → h'.get? b = some o) → Sub (hid Z s₁.heap) (hid (D :: C :: I :: Z) h') := fun hD hC k b o e => by
    have e1 := hid_sub Z _ _ _ e
    have hb := Heap.lt_size e1
    have hb2 := Heap.lt_size (ksub k₂ _ _ e1)
    refine hid_get (up hD hC k b o e1) fun hm => ?_
    simp only [List.mem_cons] at hm
    rcases hm with q | q | q | q
    · exact Nat.ne_of_lt (Nat.lt_of_lt_of_le hb2 hD) q
    · exact Nat.ne_of_lt (Nat.lt_trans (Nat.lt_of_lt_of_le hb2 hD) hC) q
    · exact Nat.ne_of_lt (Nat.lt_of_lt_of_le hb hI) q
    · rw [hid_none q] at e; cases e
  have loc : ∀ {a C D} {h' : Heap} {m}, (∀ x S, (ρx a).lookup x = some S → ∃ v, m x = some v ∧ S (hid Z s₁.heap) v) → s₂.heap.objs.size ≤ D → D < C → h'.Ns C m → (∀ b o, b ≠ C → b ≠ D → b ≠ I → s₂.heap.get? b = some o → h'.get? b = some o) →
      Loc (compEnvC scope (clFold env.cells scope.names []) C env) (D :: C :: I :: Z) (ρx a ++ ρc) h' := fun hB hD hC hn k =>
    cap_locG L cp sc.free sc.kind ((hid_sub_mono k01).trans (upz hD hC k)) (k01.trans (up hD hC k)) hn fun x S e =>
      let ⟨hl, mS⟩ := hρx _ x S e
      let ⟨v, hv, hS⟩ := hB x S e
      ⟨hl, mS, v, hv, mS _ _ _ (upz hD hC k) hS⟩
  have zlr : ∀ {C D} {h' : Heap}, s₂.heap.objs.size ≤ D → D < C → (∀ b ∈ [D, C, I], ∃ o, h'.get? b = some o) → (∀ b o, b ≠ C → b ≠ D → b ≠ I → s₂.heap.get? b = some o → h'.get? b = some o) → Zl h' (D :: C :: I :: Zr) := fun hD hC lv k z hz => by
    simp only [List.mem_cons] at hz
    rcases hz with q | q | q | q
    · subst q; exact lv _ (by simp)
    · subst q; exact lv _ (by simp)
    · subst q; exact lv _ (by simp)
    · obtain ⟨o, e⟩ := zl z q
      exact ⟨o, up hD hC k _ _ (k01 _ _ e)⟩
  refine comp_loopG (Z := Zr) (Tn := []) (J := fun _ _ _ _ => True) (Bd := fun a m => ∀ x S, (ρx a).lookup x = some S → ∃ v, m x = some v ∧ S (hid Z s₁.heap) v) (p := p) (f := f) (R' := R') (RR := fun acc C => compPost (model prog w) A E use Q acc C) W hst (fun b hb => (hfp b hb).1) hI2 mR' hsz sc.cell sc.kind
    (fun A' i i' u Q' E' s'' a1 a2 a3 => lo A' i i' u target Q' E' s'' a1 a2 a3) alv (fun _ _ => by simp) (by simp) (by simp) (by simp)
    (fun i u C D s₃ m₃ Q E' hPu hD hC hn k q => ?_) (fun _ _ _ _ _ _ => trivial) (fun _ _ _ _ _ _ _ _ _ => trivial) (fun _ _ _ _ _ _ _ _ => trivial)
    (fun i a C D s₃ m₃ E' ha hB hD hC hn lv k _ => ?_) (fun i a C D s₃ m₃ E' ha hp hB hD hC hn lv k _ => ?_) ?_
  · have k' : ∀ b o, b ≠ C → b ≠ D → b ≠ I → s₂.heap.get? b = some o → s₃.heap.get? b = some o := fun b o => k b o (by simp)
    obtain ⟨a, ha, hR⟩ := hP i u hPu
    refine tg _ C A s₃ m₃ a u (hid Z s₁.heap) Q E' rm.hh hR ((hid_sub Z _).trans (up hD hC k')) hn ?_ fun h₄ m₄ tk hB hn₄ hk => q a h₄ m₄ tk ha hB hn₄ hk
    cases e : (hid Z s₁.heap).get? C with
    | none => rfl
    | some o => exact absurd (Heap.lt_size (ksub k₂ _ _ (hid_sub Z _ _ _ e))) (Nat.not_lt.mpr (Nat.le_of_lt (Nat.lt_of_le_of_lt hD hC)))
  · have k' : ∀ b o, b ≠ C → b ≠ D → b ≠ I → s₂.heap.get? b = some o → s₃.heap.get? b = some o := fun b o => k b o (by simp)
    exact tests i a C D I s₃.heap ha (k01.trans (up hD hC k')) (loc hB hD hC hn k') (zlr hD hC lv k') A s₃ E' rm (Sub.refl _)
  · have k' : ∀ b o, b ≠ C → b ≠ D → b ≠ I → s₂.heap.get? b = some o → s₃.heap.get? b = some o := fun b o => k b o (by simp)
    exact wpAny_mono (helt i a C D I s₃.heap ha hp (k01.trans (up hD hC k')) (loc hB hD hC hn k') (zlr hD hC lv k') A s₃ E' rm (Sub.refl _)) (fun y s₄ ⟨k4, h4⟩ => ⟨klike k4, fun b o _ e => ksub k4 b o e, trivial, h4⟩) fun _ _ e => e
  · intro D C h' tk m' ys hD hC hn hl hpr k _
    have k' : ∀ b o, b ≠ C → b ≠ D → b ≠ I → s₂.heap.get? b = some o → h'.get? b = some o := fun b o => k b o (by simp)
    have hCf : s.heap.get? C = none := by
      cases e : s.heap.get? C with
      | none => rfl
      | some o => exact absurd (Heap.lt_size (k02 _ _ e)) (Nat.not_lt.mpr (Nat.le_of_lt (Nat.lt_of_le_of_lt hD hC)))
    have hls : Ls R' ((xs.filter p).map f) (hid (C :: Zr) h') (.ref D) := by
      refine ⟨D, ys, rfl, ?_, paired_imp (fun b v q => mR' b _ _ _ (hid_less fun a ha => by simp only [List.mem_cons] at ha ⊢; rcases ha with q | q <;> simp [q]) q) hpr⟩
      obtain ⟨nn, e⟩ := hl
      refine ⟨nn, hid_get e fun hm => ?_⟩
      rcases List.mem_cons.mp hm with q | q
      · exact Nat.ne_of_lt hC q
      · obtain ⟨o, ho⟩ := zl D q
        exact absurd (Heap.lt_size (k02 _ _ (kh _ _ ho))) (Nat.not_lt.mpr hD)
    refine fin D C m' _ ?_ hCf hn hls
    obtain ⟨_, _, e₂, _⟩ := ktr k₁ k₂
    exact ⟨h', tk, by rw [e₂], fun b o e => up hD hC k' b o (ksub k₁ _ _ e)⟩

/-- a pure comprehension with any target -/
theorem ev_compG (L : Loc env Z ρ h) (ev : EV prog w n Z env h iter S) (it : Itr prog w R xs S) (mR' : ∀ b, Mono (R' b)) (hsz : xs.length ≤ sizeLine)
    (sc : ScG scope env) (cp : Cap env scope ρ ρc) (hs : ∀ x, foldedSetIterable iter env x = pure x) (zl : Zl h Zr)
    (tg : TG prog w env scope target R ρx) (hρx : ∀ a x S, (ρx a).lookup x = some S → scope.names.lookup x = some .local ∧ Mono S)
    (tests : ∀ (i : Nat) a C D I h', xs[i]? = some a → Sub h h' → Loc (compEnvC scope (clFold env.cells scope.names []) C env) (D :: C :: I :: Z) (ρx a ++ ρc) h' → Zl h' (D :: C :: I :: Zr) →
      EVts prog w n (compEnvC scope (clFold env.cells scope.names []) C env) h' ifs (p a))
    (helt : ∀ (i : Nat) a C D I h', xs[i]? = some a → p a = true → Sub h h' → Loc (compEnvC scope (clFold env.cells scope.names []) C env) (D :: C :: I :: Z) (ρx a ++ ρc) h' → Zl h' (D :: C :: I :: Zr) →
      EV prog w n (D :: C :: I :: Zr) (compEnvC scope (clFold env.cells scope.names []) C env) h' elt (R' (f a))) :
    EV prog w n Zr env h (.ListComp elt [⟨target, iter, ifs, 0⟩] scope pos) (Ls R' ((xs.filter p).map f)) := fun A s E rm kh => by
  rw [eval_ListComp]
  refine comp_core (use := none) L ev it mR' hsz sc cp hs zl tg hρx tests helt rm kh fun D C m' s' k' hC hn hls => ?_
  refine ⟨m', hn, fun h'' sb => ⟨?_, mono_Ls mR' _ _ _ _ ?_ hls⟩⟩
  · obtain ⟨h1, tk, e, kk⟩ := k'
    subst e
    exact ⟨h'', tk, rfl, fun b o e => sb.extBut b o (fun q => by subst q; rw [hC] at e; cases e) (kk b o e)⟩
  · intro b o e
    by_cases hb : b ∈ C :: Zr
    · rw [hid_none hb] at e; cases e
    · refine hid_get (sb.extBut b o (fun q => hb (by simp [q])) (of_hideAll _ e)) fun q => hb (by simp [q])

/-- a comprehension over one name, without tests -/
theorem ev_compn (L : Loc env Z ρ h) (ev : EV prog w n Z env h iter S) (it : Itr prog w R xs S) (mR : ∀ a, Mono (R a)) (mR' : ∀ b, Mono (R' b)) (hsz : xs.length ≤ sizeLine)
    (sc : ScOk scope env x) (cp : Cap env scope ρ ρc) (hs : ∀ x, foldedSetIterable iter env x = pure x) (zl : Zl h Zr)
    (helt : ∀ (i : Nat) a C D I h', xs[i]? = some a → Sub h h' → Loc (compEnvC scope (clFold env.cells scope.names []) C env) (D :: C :: I :: Z) ((x, R a) :: ρc) h' → Zl h' (D :: C :: I :: Zr) →
      EV prog w n (D :: C :: I :: Zr) (compEnvC scope (clFold env.cells scope.names []) C env) h' elt (R' (f a))) :
    EV prog w n Zr env h (.ListComp elt [⟨.Name x px, iter, [], 0⟩] scope pos) (Ls R' (xs.map f)) := by
  have := ev_compG (p := fun _ => true) (f := f) (R' := R') (elt := elt) (pos := pos) (ifs := []) L ev it mR' hsz ⟨sc.free, sc.cell, sc.kind, sc.names⟩ cp hs zl (tg_name (px := px) sc.kind sc.x) (fun a y T e => by
      rw [List.lookup_cons] at e
      cases hb : y == x with
      | true => rw [hb] at e; cases e; rw [beq_iff_eq.mp hb]; exact ⟨sc.x, mR a⟩
      | false => rw [hb] at e; cases e) (fun i a C D I h' e k l _ => evts_nil) (fun i a C D I h' e _ k l z => helt i a C D I h' e k l z)
  have e : xs.filter (fun _ => true) = xs := List.filter_eq_self.mpr fun _ _ => rfl
  rw [e] at this
  exact this
end
theorem GEnv.comp {env : Env} {scope : Scope} {cl : List (Str × Addr)} {C : Addr} (g : GEnv env) (h : scope.kind = .function) : GEnv (compEnvC scope cl C env) := ⟨h, g.g, g.b⟩
/-! ## what the scope's list decides -/
noncomputable def scB (scope : Scope) (env : Env) : Bool :=
  scope.names.all (fun y => (!(y.2 == .free) || (env.cells.lookup y.1).isSome) && !(y.2 == .cell) && (!(y.2 == .local) || scope.names.lookup y.1 == some .local)) && scope.kind == .function
theorem scG_of {scope : Scope} {env : Env} (h : scB scope env = true) : ScG scope env := by
  unfold scB at h
  rw [Bool.and_eq_true, List.all_eq_true] at h
  obtain ⟨h1, h2⟩ := h
  refine ⟨fun y hy e => ?_, fun y hy e => ?_, by simpa using h2, fun y hy e => ?_⟩
  · have := h1 y hy
    simp only [Bool.and_eq_true] at this
    have h3 := this.1.1
    rw [e] at h3
    simpa using h3
  · have := h1 y hy
    simp only [Bool.and_eq_true] at this
    have h3 := this.1.2
    rw [e] at h3
    simp at h3
  · have := h1 y hy
    simp only [Bool.and_eq_true] at this
    have h3 := this.2
    rw [e] at h3
    simpa using h3
theorem scOk_of {scope : Scope} {env : Env} {x : Str} (h : scB scope env = true) (hx : scope.names.lookup x = some .local) : ScOk scope env x :=
  let g := scG_of h
  ⟨g.free, g.cell, g.kind, g.names, hx⟩
noncomputable def capB (env : Env) (scope : Scope) (y : Str) : Bool := scope.names.lookup y == some .free && (env.kindOf y == some .cell || (env.kindOf y == some .free && !(y == ("__classdict__" : Str))))
theorem cap_cons {env : Env} {scope : Scope} {ρ r : List (Str × Sp)} {y : Str} {S : Sp} (e : ρ.lookup y = some S) (h : capB env scope y = true) (t : Cap env scope ρ r) : Cap env scope ρ ((y, S) :: r) := by
  unfold capB at h
  simp only [Bool.and_eq_true, Bool.or_eq_true] at h
  refine .cons e (by simpa using h.1) ?_ t
  rcases h.2 with q | q
  · exact .inl (by simpa using q)
  · refine .inr ⟨by simpa using q.1, by simpa using q.2⟩
end Mine
end
section
open PySem PySem.W PyProof.Rows
set_option Elab.async false
set_option maxRecDepth 100000
set_option linter.unusedVariables false
namespace Mine
/-! ## the kit's tree of questions sorts, where no two keys are equal -/
structure PA (n : Nat) (p : Array Nat) : Prop where
  size : p.size = n
  perm : p.toList.Perm (List.range n)
theorem pa_range (n : Nat) : PA n (List.toArray (List.range n)) := ⟨by simp, List.Perm.refl _⟩
theorem PA.lt {n : Nat} {p : Array Nat} (h : PA n p) {k : Nat} (hk : k < n) : p.getD k 0 < n := by
  have hs : k < p.size := by rw [h.size]; exact hk
  have e : p.getD k 0 = p[k] := by simp [Array.getD, hs]
  rw [e]
  exact List.mem_range.mp (h.perm.mem_iff.mp (Array.getElem_mem_toList hs))
theorem PA.inj {n : Nat} {p : Array Nat} (h : PA n p) {i j : Nat} (hi : i < n) (hj : j < n) (e : p.getD i 0 = p.getD j 0) : i = j := by
  have nd : p.toList.Nodup := h.perm.nodup_iff.mpr List.nodup_range
  have hi' : i < p.size := by rw [h.size]; exact hi
  have hj' : j < p.size := by rw [h.size]; exact hj
  have e1 : p.getD i 0 = p.toList[i] := by simp [Array.getD, hi']
  have e2 : p.getD j 0 = p.toList[j] := by simp [Array.getD, hj']
  rw [e1, e2] at e
  rcases Nat.lt_trichotomy i j with q | q | q
  · exact absurd e (List.pairwise_iff_getElem.mp nd i j (by simpa using hi') (by simpa using hj') q)
  · exact q
  · exact absurd e.symm (List.pairwise_iff_getElem.mp nd j i (by simpa using hj') (by simpa using hi') q)
theorem getD_q (p : Array Nat) (k : Nat) : p.getD k 0 = (p[k]?).getD 0 := Array.getD_eq_getD_getElem?
noncomputable def AscP (f : Nat → Nat) (p : Array Nat) (m : Nat) : Prop := ∀ i j, i < j → j < m → f (p.getD i 0) < f (p.getD j 0)
theorem asc_of {f : Nat → Nat} {p : Array Nat} {m : Nat} (h : ∀ j, 1 ≤ j → j < m → f (p.getD (j - 1) 0) < f (p.getD j 0)) : AscP f p m := fun i j hij hj => by
  induction j with
  | zero => lia
  | succ j ih =>
    have h1 := h (j + 1) (by lia) hj
    rw [show j + 1 - 1 = j by lia] at h1
    rcases Nat.lt_or_ge i j with q | q
    · have := ih q (by lia); lia
    · rw [show i = j by lia]; exact h1
section
variable {cmp : Nat → Nat → (Bool → Shared → Prop) → Shared → Prop} {f : Nat → Nat} {n : Nat} {s : Shared}
  (good : ∀ i j, i < n → j < n → ∀ C : Bool → Shared → Prop, C (decide (f i < f j)) s → cmp i j C s) (inj : ∀ i j, i < n → j < n → f i = f j → i = j)
include good inj
theorem s_asc {p : Array Nat} (h : PA n p) {Q : Nat → Shared → Prop} : ∀ (fu k : Nat), 1 ≤ k → k + fu ≤ n → (∀ j, 1 ≤ j → j < k → f (p.getD (j - 1) 0) < f (p.getD j 0)) →
    (∀ m, k ≤ m → m ≤ k + fu → (∀ j, 1 ≤ j → j < m → f (p.getD (j - 1) 0) < f (p.getD j 0)) → (m < k + fu → f (p.getD m 0) < f (p.getD (m - 1) 0)) → Q m s) → (kas_asc p fu k).kasWp cmp Q s
  | 0, k, hk, hn, ha, q => q k (Nat.le_refl _) (Nat.le_refl _) ha fun h => absurd h (Nat.lt_irrefl _)
  | fu + 1, k, hk, hn, ha, q => by
    show cmp (p.getD k 0) (p.getD (k - 1) 0) (fun c s' => (if c = true then KasT.ret k else kas_asc p fu (k + 1)).kasWp cmp Q s') s
    refine good _ _ (h.lt (by lia)) (h.lt (by lia)) _ ?_
    by_cases hc : f (p.getD k 0) < f (p.getD (k - 1) 0)
    · rw [decide_eq_true hc, if_pos rfl]
      exact q k (Nat.le_refl _) (by lia) ha fun _ => hc
    · rw [decide_eq_false hc, if_neg Bool.false_ne_true]
      have hne : f (p.getD (k - 1) 0) ≠ f (p.getD k 0) := fun e => by
        have := h.inj (i := k - 1) (j := k) (by lia) (by lia) (inj _ _ (h.lt (by lia)) (h.lt (by lia)) e)
        lia
      refine s_asc h fu (k + 1) (by lia) (by lia) (fun j h1 h2 => ?_) fun m h1 h2 h3 h4 => q m (by lia) (by lia) h3 fun h5 => h4 (by lia)
      rcases Nat.lt_or_ge j k with q' | q'
      · exact ha j h1 q'
      · rw [show j = k by lia]; lia
theorem s_desc {p : Array Nat} (h : PA n p) {Q : Array Nat × Nat × Nat → Shared → Prop} : ∀ (fu k : Nat), 1 ≤ k → k + fu ≤ n → (∀ j, 1 ≤ j → j < k → f (p.getD j 0) < f (p.getD (j - 1) 0)) →
    (∀ m, k ≤ m → m ≤ k + fu → (∀ j, 1 ≤ j → j < m → f (p.getD j 0) < f (p.getD (j - 1) 0)) → Q (p, m, 0) s) → (kas_desc fu p k 0).kasWp cmp Q s
  | 0, k, hk, hn, ha, q => q k (Nat.le_refl _) (Nat.le_refl _) ha
  | fu + 1, k, hk, hn, ha, q => by
    show cmp (p.getD k 0) (p.getD (k - 1) 0) (fun c s' => (if c = true then (if 0 > 0 then kas_desc fu (kas_rev p (k - (0 + 1)) k) (k + 1) 0 else kas_desc fu p (k + 1) 0) else KasT.ask (p.getD (k - 1) 0) (p.getD k 0) fun d => if d = true then KasT.ret (p, k, 0) else kas_desc fu p (k + 1) (0 + 1)).kasWp cmp Q s') s
    refine good _ _ (h.lt (by lia)) (h.lt (by lia)) _ ?_
    by_cases hc : f (p.getD k 0) < f (p.getD (k - 1) 0)
    · rw [decide_eq_true hc, if_pos rfl, if_neg (Nat.lt_irrefl 0)]
      refine s_desc h fu (k + 1) (by lia) (by lia) (fun j h1 h2 => ?_) fun m h1 h2 h3 => q m (by lia) (by lia) h3
      rcases Nat.lt_or_ge j k with q' | q'
      · exact ha j h1 q'
      · rw [show j = k by lia]; exact hc
    · rw [decide_eq_false hc, if_neg Bool.false_ne_true]
      have hne : f (p.getD (k - 1) 0) ≠ f (p.getD k 0) := fun e => by
        have := h.inj (i := k - 1) (j := k) (by lia) (by lia) (inj _ _ (h.lt (by lia)) (h.lt (by lia)) e)
        lia
      show cmp (p.getD (k - 1) 0) (p.getD k 0) (fun d s' => (if d = true then KasT.ret (p, k, 0) else kas_desc fu p (k + 1) (0 + 1)).kasWp cmp Q s') s
      refine good _ _ (h.lt (by lia)) (h.lt (by lia)) _ ?_
      rw [decide_eq_true (by lia : f (p.getD (k - 1) 0) < f (p.getD k 0)), if_pos rfl]
      exact q k (Nat.le_refl _) (by lia) ha
omit good inj in
theorem rev_get {p : Array Nat} {m : Nat} (hm : m ≤ p.size) (k : Nat) : (kas_rev p 0 m).getD k 0 = if k < m then p.getD (m - 1 - k) 0 else p.getD k 0 := by
  unfold kas_rev
  rw [getD_q, getElem?_mirror_all hm]
  by_cases h : k < m
  · rw [if_pos ⟨Nat.zero_le _, h⟩, if_pos h, getD_q, Nat.zero_add]
  · rw [if_neg (fun q => h q.2), if_neg h, getD_q]
omit good inj in
theorem rev_pa {p : Array Nat} (h : PA n p) (m : Nat) : PA n (kas_rev p 0 m) := ⟨(mirror_size _ _ _ _).trans h.size, (Array.perm_iff_toList_perm.mp (mirror_perm _ _ _ _)).trans h.perm⟩
theorem s_tail {p : Array Nat} (h : PA n p) {m : Nat} (h1 : 1 ≤ m) (hm : m ≤ n) (hd : ∀ j, 1 ≤ j → j < m → f (p.getD j 0) < f (p.getD (j - 1) 0)) {Q : Nat × Array Nat → Shared → Prop} (q : ∀ m' p', PA n p' → 1 ≤ m' → m' ≤ n → AscP f p' m' → Q (m', p') s) : (kas_tail3 m n p).kasWp cmp Q s := by
  unfold kas_tail3
  rw [KasT.kasWp_bind]
  have hp := rev_pa h m
  refine s_asc good inj hp (n - m) m h1 (by lia) (fun j j1 j2 => ?_) fun m' h2 h3 h4 h5 => q m' _ hp (by lia) (by lia) (asc_of h4)
  rw [rev_get (by rw [h.size]; exact hm), rev_get (by rw [h.size]; exact hm), if_pos (by lia), if_pos j2]
  have := hd (m - j) (by lia) (by lia)
  rw [show m - 1 - (j - 1) = m - j by lia, show m - 1 - j = m - j - 1 by lia]
  exact this
theorem s_count (h2 : 2 ≤ n) {p : Array Nat} (h : PA n p) {Q : Nat × Array Nat → Shared → Prop} (q : ∀ m' p', PA n p' → 1 ≤ m' → m' ≤ n → AscP f p' m' → Q (m', p') s) : (kas_count n p).kasWp cmp Q s := by
  unfold kas_count
  rw [KasT.kasWp_bind]
  refine s_asc good inj h (n - 1) 1 (Nat.le_refl _) (by lia) (fun j a b => by lia) fun m h3 h4 h5 h6 => ?_
  by_cases he : m = n
  · rw [if_pos (by simpa using he)]
    exact q m p h (by lia) (by lia) (asc_of h5)
  · rw [if_neg (by simpa using he)]
    by_cases h1 : m > 1
    · rw [if_pos h1]
      show cmp (p.getD 0 0) (p.getD (m - 1) 0) (fun c s' => (if c = true then KasT.ret (m, p) else kas_descPart m n (kas_rev p 0 m)).kasWp cmp Q s') s
      refine good _ _ (h.lt (by lia)) (h.lt (by lia)) _ ?_
      rw [decide_eq_true (asc_of h5 0 (m - 1) (by lia) (by lia)), if_pos rfl]
      exact q m p h (by lia) (by lia) (asc_of h5)
    · rw [if_neg h1]
      have e1 : m = 1 := by lia
      subst e1
      unfold kas_descPart
      rw [KasT.kasWp_bind]
      refine s_desc good inj h (n - (1 + 1)) (1 + 1) (by lia) (by lia) (fun j a b => ?_) fun m' h7 h8 h9 => ?_
      · have := h6 (by lia)
        rw [show j = 1 by lia]
        exact this
      · dsimp only
        rw [if_neg (Nat.lt_irrefl 0)]
        exact s_tail good inj h (by lia) (by lia) h9 q
theorem s_place {p : Array Nat} (h : PA n p) {k : Nat} (hk : k < n) (ha : AscP f p k) {Q : Nat → Shared → Prop} (q : ∀ t, t ≤ k → (∀ j, j < t → f (p.getD j 0) < f (p.getD k 0)) → (∀ j, t ≤ j → j < k → f (p.getD k 0) < f (p.getD j 0)) → Q t s) :
    ∀ (fu l r : Nat), l ≤ r → r ≤ k → r - l ≤ fu → (∀ j, j < l → f (p.getD j 0) < f (p.getD k 0)) → (∀ j, r ≤ j → j < k → f (p.getD k 0) < f (p.getD j 0)) → (kas_place p k fu l r).kasWp cmp Q s
  | 0, l, r, h1, h2, h3, h4, h5 => q l (by lia) h4 (by rw [show l = r by lia]; exact h5)
  | fu + 1, l, r, h1, h2, h3, h4, h5 => by
    unfold kas_place
    by_cases hg : l ≥ r
    · rw [if_pos hg]
      exact q l (by lia) h4 (by rw [show l = r by lia]; exact h5)
    · rw [if_neg hg]
      have hm1 : l ≤ (l + r) / 2 := by lia
      have hm2 : (l + r) / 2 < r := by lia
      generalize (l + r) / 2 = m at *
      show cmp (p.getD k 0) (p.getD m 0) (fun c s' => (if c = true then kas_place p k fu l m else kas_place p k fu (m + 1) r).kasWp cmp Q s') s
      refine good _ _ (h.lt (by lia)) (h.lt (by lia)) _ ?_
      by_cases hc : f (p.getD k 0) < f (p.getD m 0)
      · rw [decide_eq_true hc, if_pos rfl]
        refine s_place h hk ha q fu l m hm1 (by lia) (by lia) h4 fun j a b => ?_
        rcases Nat.lt_or_ge m j with q' | q'
        · have := ha m j q' b; lia
        · rw [show j = m by lia]; exact hc
      · rw [decide_eq_false hc, if_neg Bool.false_ne_true]
        have hne : f (p.getD m 0) ≠ f (p.getD k 0) := fun e => by
          have := h.inj (i := m) (j := k) (by lia) (by lia) (inj _ _ (h.lt (by lia)) (h.lt (by lia)) e)
          lia
        refine s_place h hk ha q fu (m + 1) r (by lia) h2 (by lia) (fun j a => ?_) h5
        rcases Nat.lt_or_ge j m with q' | q'
        · have := ha j m q' (by lia); lia
        · rw [show j = m by lia]; lia
theorem s_bin {Q : Array Nat → Shared → Prop} (q : ∀ p', PA n p' → AscP f p' n → Q p' s) : ∀ (fu : Nat) (p : Array Nat) (k : Nat), PA n p → k + fu = n → AscP f p k → (kas_bin fu p k).kasWp cmp Q s
  | 0, p, k, h, hk, ha => q p h (by rw [← show k = n by lia]; exact ha)
  | fu + 1, p, k, h, hk, ha => by
    unfold kas_bin
    rw [KasT.kasWp_bind]
    refine s_place good inj h (by lia) ha (fun t h1 h2 h3 => ?_) k 0 k (Nat.zero_le _) (Nat.le_refl _) (by lia) (fun j a => absurd a (Nat.not_lt_zero _)) fun j a b => by lia
    refine s_bin q fu (bubble p k (k - t)) (k + 1) ⟨(bubble_size _ _ _).trans h.size, (Array.perm_iff_toList_perm.mp (bubble_perm _ _ _)).trans h.perm⟩ (by lia) fun i j hij hj => ?_
    have get : ∀ i, (bubble p k (k - t)).getD i 0 = if i = t then p.getD k 0 else if t < i ∧ i ≤ k then p.getD (i - 1) 0 else p.getD i 0 := fun i => by
      rw [getD_q, getElem?_bubble (by rw [h.size]; lia) _ (by lia), show k - (k - t) = t by lia]
      repeat' split
      all_goals rw [getD_q]
    rw [get i, get j]
    by_cases i1 : i = t
    · rw [if_pos i1, if_neg (by lia), if_pos (by lia)]
      exact h3 (j - 1) (by lia) (by lia)
    · rw [if_neg i1]
      by_cases i2 : t < i ∧ i ≤ k
      · rw [if_pos i2, if_neg (by lia), if_pos (by lia)]
        exact ha (i - 1) (j - 1) (by lia) (by lia)
      · rw [if_neg i2]
        by_cases j1 : j = t
        · rw [if_pos j1]
          exact h2 i (by lia)
        · rw [if_neg j1]
          by_cases j2 : t < j ∧ j ≤ k
          · rw [if_pos j2]
            rcases Nat.lt_or_ge i (j - 1) with q' | q'
            · exact ha i (j - 1) q' (by lia)
            · lia
          · rw [if_neg j2]
            exact ha i j hij (by lia)
theorem s_sort (h2 : 2 ≤ n) {Q : Array Nat → Shared → Prop} (q : ∀ p', PA n p' → AscP f p' n → Q p' s) : (kas_sort n).kasWp cmp Q s := by
  unfold kas_sort
  rw [KasT.kasWp_bind]
  refine s_count good inj h2 (pa_range n) fun m p hp h3 h4 ha => ?_
  dsimp only
  by_cases hm : m < n
  · rw [if_pos hm, show max m 1 = m by lia]
    exact s_bin good inj q (n - m) p m hp (by lia) ha
  · rw [if_neg hm]
    exact q p hp (by rw [← show m = n by lia]; exact ha)
end
end Mine
end
section
open PySem PySem.W PyProof.Rows
set_option Elab.async false
set_option maxRecDepth 100000
set_option linter.unusedVariables false
namespace Mine

/-! ## Int2AP, plainly -/
noncomputable def apLetter (d : Nat) : UInt8 := (65 + d).toUInt8
noncomputable def apAll : List UInt8 := [65, 66, 67, 68, 69, 70, 71, 72, 73, 74, 75, 76, 77, 78, 79, 80]
noncomputable def apLow (m : Nat) : Nat → List UInt8
  | 0 => []
  | i + 1 => apLetter (m / 16 ^ i % 16) :: apLow m i
noncomputable def apLen (m : Nat) : Nat := if m = 0 then 0 else apLen (m / 16) + 1
decreasing_by lia
noncomputable def ap (m : Nat) : List UInt8 := apLow m (apLen m)
theorem apLen_lt : ∀ (m i : Nat), i < apLen m ↔ m / 16 ^ i ≠ 0
  | m, 0 => by
    rw [Nat.pow_zero, Nat.div_one]
    by_cases h : m = 0
    · subst h; unfold apLen; simp
    · unfold apLen; simp [h]
  | m, i + 1 => by
    by_cases h : m = 0
    · subst h; unfold apLen; simp
    · unfold apLen
      rw [if_neg h, Nat.add_lt_add_iff_right, apLen_lt (m / 16) i, Nat.pow_succ', Nat.div_div_eq_div_mul]
theorem apLen_le (m k : Nat) (h : m < 16 ^ k) : apLen m ≤ k := Nat.le_of_not_lt fun q => (apLen_lt m k).mp q (Nat.div_eq_of_lt h)
theorem apLow_len (m : Nat) : ∀ i, (apLow m i).length = i
  | 0 => rfl
  | i + 1 => by simp [apLow, apLow_len m i]
end Mine
end
section
open PySem PySem.W PyProof.Rows
set_option Elab.async false
set_option maxRecDepth 100000
set_option maxHeartbeats 8000000
namespace Mine
local macro_rules | `(tactic| o_head ($_f:term $K:term $as:term $e:term)) => `(tactic| o_head (kmHook $K $as $e [87, 94]))
open_top hd for PySem.Challenge.rw_xl0001_02
end Mine
end
section
open PySem PySem.W PyProof.Rows
set_option Elab.async false
set_option maxRecDepth 100000
set_option linter.unusedVariables false
namespace Mine
noncomputable abbrev K1 (P : Params) : Frag := Mine.hd.heap_39 P
theorem fnB_ap (P : Params) : isFnB (K1 P) 45 = true := by kernel_rfl
theorem gn_abs {P : Params} {h : Heap} (p : PF (K1 P) h) : GN h (Str.ofString "abs") (.builtin "abs") := gn_boot p (by kernel_rfl) (by decide +kernel) (by decide +kernel)
theorem gn_divmod {P : Params} {h : Heap} (p : PF (K1 P) h) : GN h (Str.ofString "divmod") (.builtin "divmod") := gn_boot p (by kernel_rfl) (by decide +kernel) (by decide +kernel)
theorem gn_int {P : Params} {h : Heap} (p : PF (K1 P) h) : GN h (Str.ofString "int") (.type "int") := gn_boot p (by kernel_rfl) (by decide +kernel) (by decide +kernel)
end Mine
end
section
open PySem PySem.W PyProof.Rows
set_option Elab.async false
set_option maxRecDepth 100000
set_option linter.unusedVariables false
namespace Mine
section
variable {w : World}
theorem gn_sum {h : Heap} (p : PF (K1 w.params) h) : GN h (Str.ofString "sum") (.builtin "sum") := gn_boot p (by kernel_rfl) (by decide +kernel) (by kernel_rfl)
theorem gn_range {h : Heap} (p : PF (K1 w.params) h) : GN h (Str.ofString "range") (.type "range") := gn_boot p (by kernel_rfl) (by decide +kernel) (by kernel_rfl)
theorem gn_chr {h : Heap} (p : PF (K1 w.params) h) : GN h (Str.ofString "chr") (.builtin "chr") := gn_boot p (by kernel_rfl) (by decide +kernel) (by kernel_rfl)
theorem gn_len {h : Heap} (p : PF (K1 w.params) h) : GN h (Str.ofString "len") (.builtin "len") := gn_boot p (by kernel_rfl) (by decide +kernel) (by kernel_rfl)
theorem gn_ord {h : Heap} (p : PF (K1 w.params) h) : GN h (Str.ofString "ord") (.builtin "ord") := gn_boot p (by kernel_rfl) (by decide +kernel) (by kernel_rfl)
theorem gn_list {h : Heap} (p : PF (K1 w.params) h) : GN h (Str.ofString "list") (.type "list") := gn_boot p (by kernel_rfl) (by decide +kernel) (by kernel_rfl)
theorem gn_sorted {h : Heap} (p : PF (K1 w.params) h) : GN h (Str.ofString "sorted") (.builtin "sorted") := gn_boot p (by kernel_rfl) (by decide +kernel) (by kernel_rfl)
theorem gn_bytes {h : Heap} (p : PF (K1 w.params) h) : GN h (Str.ofString "bytes") (.type "bytes") := gn_boot p (by kernel_rfl) (by decide +kernel) (by kernel_rfl)
theorem gn_str {h : Heap} (p : PF (K1 w.params) h) : GN h (Str.ofString "str") (.type "str") := gn_boot p (by kernel_rfl) (by decide +kernel) (by kernel_rfl)
theorem gn_qd {h : Heap} (p : PF (K1 w.params) h) : GN h (Str.ofString "quotedata") (.ref 146) := gn_own p (by kernel_rfl)
theorem gn_sums {h : Heap} (p : PF (K1 w.params) h) : GN h (Str.ofString "_law_sums") (.ref 151) := gn_own p (by kernel_rfl)
theorem gn_places {h : Heap} (p : PF (K1 w.params) h) : GN h (Str.ofString "_law_places") (.ref 156) := gn_own p (by kernel_rfl)
theorem gn_turned {h : Heap} (p : PF (K1 w.params) h) : GN h (Str.ofString "_law_turned") (.ref 161) := gn_own p (by kernel_rfl)
theorem gn_ap {h : Heap} (p : PF (K1 w.params) h) : GN h (Str.ofString "Int2AP") (.ref 45) := gn_own p (by kernel_rfl)
end
end Mine
end
section
open PySem PySem.W PyProof.Rows
set_option Elab.async false
set_option maxRecDepth 100000
set_option linter.unusedVariables false
namespace Mine
local macro_rules | `(tactic| walk_at "lk") => `(tactic| first | with_reducible exact lk_here | (refine' lk_skip ?n ?k; (case n => decide +kernel); (case k => walk_at "lk")) | exact lk_here)
local macro_rules | `(tactic| walk_at "sel") => `(tactic| first | exact sel_nil | (refine' sel_cons ?a ?b; (case a => walk_at "lk"); (case b => walk_at "sel")))
local macro_rules | `(tactic| walk_at "mono") => `(tactic| first | exact mono_I _ | exact mono_Tl _ | exact (flat_Bo _).mono | exact (flat_By _).mono | exact (flat_V _).mono | exact mono_Rg _ _ _ | (refine mono_Ls (fun _ => ?_) _; walk_at "mono") | (refine mono_T2 (fun _ => ?_) (fun _ => ?_) _ <;> walk_at "mono"))
local macro_rules | `(tactic| walk_at "as") => `(tactic| first | with_reducible assumption | with_reducible exact Fm.loc (by with_reducible assumption) | with_reducible exact Fm.live (by with_reducible assumption) | exact List.forall_mem_nil _ | exact fun _ h => h | (refine GEnv.comp ?_ ?_ <;> first | walk_at "as" | kernel_rfl))
local macro_rules | `(tactic| walk_at "ar") => `(tactic| first | assumption | decide | omega | (simp; done))
local macro_rules | `(tactic| walk_at "glx") => `(tactic| first | with_reducible exact gn_len (by assumption) | with_reducible exact gn_range (by assumption) | with_reducible exact gn_chr (by assumption) | with_reducible exact gn_sum (by assumption) | with_reducible exact gn_list (by assumption) | with_reducible exact gn_sorted (by assumption) | with_reducible exact gn_ord (by assumption) | with_reducible exact gn_bytes (by assumption) | with_reducible exact gn_str (by assumption) | with_reducible exact gn_qd (by assumption) | with_reducible exact gn_ap (by assumption) | with_reducible exact gn_places (by assumption) | with_reducible exact gn_turned (by assumption) | with_reducible exact gn_sums (by assumption) | with_reducible exact gn_int (by assumption) | with_reducible exact gn_abs (by assumption) | with_reducible exact gn_divmod (by assumption))
local macro_rules | `(tactic| walk_at "bin") => `(tactic| first | exact bin_add | exact bin_sub | exact bin_addtl (by walk_at "ar") | exact bin_multl (by walk_at "ar") (by walk_at "ar") (by walk_at "ar") | exact bin_mod (by walk_at "ar") | exact bin_fdiv (by walk_at "ar") (by walk_at "ar") | exact bin_mul (by walk_at "ar") | exact bin_pow (by walk_at "ar") (by walk_at "ar") (by walk_at "ar") | exact bin_addbytes (by walk_at "ar"))
local macro_rules | `(tactic| walk_at "callr") => `(tactic| first | exact call_abs | exact call_int | exact call_min2 | exact call_sumints | exact call_ord | exact call_chr (by walk_at "ar") (by walk_at "ar") | exact call_lenlist (by walk_at "ar") | exact call_lentl (by walk_at "ar") | exact call_lenby (by walk_at "ar"))
local macro_rules | `(tactic| walk_at "callz") => `(tactic| first | exact call_divmod (by walk_at "ar") (by walk_at "ar") | exact call_range1 (by walk_at "ar") (by walk_at "ar") | exact call_listrange (by walk_at "ar") | exact call_sortedints (by walk_at "ar"))
local macro_rules | `(tactic| walk_at "cw") => `(tactic| first | with_reducible exact cw_builtin | with_reducible exact cw_type)
local macro_rules | `(tactic| walk_at "ev") => `(tactic| first
  | with_reducible exact ev_int | with_reducible exact ev_tl rfl | with_reducible exact ev_str | with_reducible exact ev_bytes | with_reducible exact ev_bool | with_reducible exact ev_none
  | ((with_reducible refine' ev_var ?L ?e ?k ?d); (case L => walk_at "as"); (case e => walk_at "lk"); (case k => walk_at "as"); (case d => decide +kernel))
  | ((with_reducible refine' ev_glob ?g ?n ?k ?d); (case g => walk_at "as"); (case n => walk_at "glx"); (case k => kernel_rfl); (case d => decide +kernel))
  | ((with_reducible refine' ev_callz1 ?i ?t ?f ?c ?z ?x ?m ?r); (case i => rfl); (case t => rfl); (case f => walk_at "ev"); (case c => walk_at "cw"); (case z => walk_at "as"); (case x => walk_at "ev"); (case m => walk_at "mono"); (case r => walk_at "callz"))
  | ((with_reducible refine' ev_callz2 ?i ?t ?f ?c ?z ?x ?m ?y ?k ?r); (case i => rfl); (case t => rfl); (case f => walk_at "ev"); (case c => walk_at "cw"); (case z => walk_at "as"); (case x => walk_at "ev"); (case m => walk_at "mono"); (case y => walk_at "ev"); (case k => walk_at "mono"); (case r => walk_at "callz"))
  | ((with_reducible refine' ev_call1 ?i ?t ?f ?c ?x ?m ?r); (case i => rfl); (case t => rfl); (case f => walk_at "ev"); (case c => walk_at "cw"); (case x => walk_at "ev"); (case m => walk_at "mono"); (case r => walk_at "callr"))
  | ((with_reducible refine' ev_binr ?x ?y ?m ?r); (case x => walk_at "ev"); (case y => walk_at "ev"); (case m => walk_at "mono"); (case r => walk_at "bin"))
  | fail "ev")
local macro_rules | `(tactic| walk_at "cap") => `(tactic| first | exact .nil | (refine' cap_cons ?a ?b ?c; (case a => walk_at "lk"); (case b => kernel_rfl); (case c => walk_at "cap")))
local macro_rules | `(tactic| walk_at "sc") => `(tactic| exact scOk_of (by kernel_rfl) (by kernel_rfl))
local macro_rules | `(tactic| walk_at "scg") => `(tactic| exact scG_of (by kernel_rfl))
section
open PySem PySem.W PyProof.Rows
set_option Elab.async false
set_option maxRecDepth 100000
set_option linter.unusedVariables false
open PySem.Builtin.Re in
noncomputable def isPatB (K : Frag) (a : Addr) (code : Array Nat) : Bool := match K.lookup a with
  | some o => (o.cls == .type "re.Pattern") && o.dict.isNone && (match o.data with
    | .fields fs => (reRawNat (fs.getD 6 .none) == 0) && (reRawNat (fs.getD 2 .none) == 0) && (match fs.getD 5 .none with
      | .ref c => (match K.lookup c with
        | some oc => (match oc.data with
          | .seq xs n => decide (((xs.map reRawOf).map (·.toNat)).toList = code.toList) && !xs.isEmpty
          | _ => false)
        | none => false)
      | _ => false)
    | _ => false)
  | none => false
theorem isPat_of {K : Frag} {h : Heap} {a : Addr} {code : Array Nat} (X : K.In h) (e : isPatB K a code = true) : IsPat h a code := by
  unfold isPatB at e
  split at e
  · rename_i o ho
    rw [Bool.and_eq_true, Bool.and_eq_true] at e
    obtain ⟨⟨e1, e2⟩, e3⟩ := e
    split at e3
    · rename_i fs hfs
      rw [Bool.and_eq_true, Bool.and_eq_true] at e3
      obtain ⟨⟨e4, e5⟩, e6⟩ := e3
      split at e6
      · rename_i c hc
        split at e6
        · rename_i oc hoc
          split at e6
          · rename_i xs n hxs
            rw [Bool.and_eq_true, decide_eq_true_eq] at e6
            exact ⟨o, fs, c, oc, xs, n, X _ _ ho, by simpa using e1, by simpa using e2, hfs, hc, by simpa using e4, by simpa using e5, X _ _ hoc, hxs, Array.ext' e6.1, by simpa using e6.2⟩
          · cases e6
        · cases e6
      · cases e6
    · cases e3
  · cases e
theorem pat1 (P : Params) : isPatB (K1 P) 134 code1 = true := by kernel_rfl
theorem pat2 (P : Params) : isPatB (K1 P) 139 code2 = true := by kernel_rfl
theorem fnB_qd (P : Params) : isFnB (K1 P) 146 = true := by kernel_rfl
theorem gn_re1 {P : Params} {h : Heap} (p : PF (K1 P) h) : GN h (Str.ofString "_twin_re_1") (.ref 134) := gn_own p (by kernel_rfl)
theorem gn_re2 {P : Params} {h : Heap} (p : PF (K1 P) h) : GN h (Str.ofString "_twin_re_2") (.ref 139) := gn_own p (by kernel_rfl)
noncomputable def gv (K : Frag) (x : Str) : Value := match globIn K x with | some (some v) => v | _ => .none
noncomputable def strB (v : Value) (l : List Nat) : Bool := match v with | .str x _ => decide (x.cps.toList = l) | _ => false
theorem strB_Tl {v : Value} {l : List Nat} (e : strB v l = true) (h : Heap) : Tl l h v := by
  unfold strB at e
  split at e
  · exact ⟨_, _, rfl, of_decide_eq_true e⟩
  · cases e
theorem gn_crlf {P : Params} {h : Heap} (p : PF (K1 P) h) : GN h (Str.ofString "CRLF") (gv (K1 P) (Str.ofString "CRLF")) := gn_own p (by kernel_rfl)
theorem crlf_tl (P : Params) : strB (gv (K1 P) (Str.ofString "CRLF")) [13, 10] = true := by kernel_rfl
section
variable {prog : Program} {w : World} {H : Heap} {env : Env} {X Z Z0 : List Addr} {μ : List (Addr × MSp)} {ρ : List (Str × Sp)} {h h' : Heap} {A : Around} {E : Value → Shared → Prop} {s : Shared} {n : Nat}
theorem EV.ofV {e : Expr} {u : Value} {S : Sp} (x : EV prog w n [] env h e (V u)) (k : ∀ h, S h u) : EV prog w n Z env h e S := x.imp fun h v e => (show v = u from e) ▸ k _
theorem meth_sub : Meth "re.Pattern" "sub" "re.Pattern.sub" := ⟨pa_pat, slot_pat_sub, ty_pat_sub⟩
theorem ev_meth2 {o e1 e2 : Expr} {name : Str} {apos pos : Pos} {T id : String} {S1 S2 S3 S : Sp} {Z1 Z2 Z3 : List Addr} (M : Meth T name id)
    (hbase : attributeBase o name env (eval o env) = eval o env) (hs : starEach [e1, e2] env = [(false, eval e1 env), (false, eval e2 env)]) (hline : (apos.endLine == pos.line) = true)
    (x : EV prog w n Z1 env h o S1) (m1 : Mono S1) (y : EV prog w n Z2 env h e1 S2) (m2 : Mono S2) (z : EV prog w n Z3 env h e2 S3)
    (hty : ∀ (s : Shared) v, Sub h s.heap → S1 (hid Z1 s.heap) v → s.TypeIs v T ∧ ∀ a, v = .ref a → ∃ ob, s.heap.get? a = some ob ∧ ob.dict = none)
    (r : ∀ A (s : Shared) E u v q, Rm n A → Sub h s.heap → S1 (hid Z1 s.heap) u → S2 (hid Z2 s.heap) v → S3 (hid Z3 s.heap) q → wpAny (model prog w) A (call (.builtin id) [u, v, q]) (fun v s' => Keeps s s' ∧ S (hid Z s'.heap) v) E s) :
    EV prog w n Z env h (.Call (.Attribute o name apos) [e1, e2] [] pos) S := fun A s E rm k =>
  Call_method2 hbase hs hline (wpAny_mono (x A s E rm k) (fun u s1 ⟨k1, h1⟩ => ⟨T, id, M.pa, M.slot, M.ty, (hty s1 u (k.trans (ksub k1)) h1).1, (hty s1 u (k.trans (ksub k1)) h1).2,
    Calls.callWith_builtin rfl (Calls.evalArgs_plain (Calls.spliced_cons (wpAny_mono (y A s1 E rm (k.trans (ksub k1))) (fun v s2 ⟨k2, h2⟩ => Calls.spliced_cons (wpAny_mono (z A s2 E rm (k.trans ((ksub k1).trans (ksub k2)))) (fun q s3 ⟨k3, h3⟩ => Calls.spliced_nil (wpAny_mono
      (r A s3 E u v q rm (k.trans ((ksub k1).trans ((ksub k2).trans (ksub k3)))) (m1 _ _ _ (hid_sub_mono ((ksub k2).trans (ksub k3))) h1) (m2 _ _ _ (hid_sub_mono (ksub k3)) h2) h3) (fun v s4 ⟨k4, h4⟩ => ⟨ktr (ktr (ktr k1 k2) k3) k4, h4⟩) fun _ _ e => e)) fun _ _ e => e)) fun _ _ e => e)))⟩) fun _ _ e => e)
theorem ev_sub1 {o e1 e2 : Expr} {apos pos : Pos} {a : Addr} {l : List Nat} (p : IsPat h a code1) (hbase : attributeBase o "sub" env (eval o env) = eval o env) (hs : starEach [e1, e2] env = [(false, eval e1 env), (false, eval e2 env)]) (hline : (apos.endLine == pos.line) = true)
    (x : EV prog w n [] env h o (V (.ref a))) (y : EV prog w n [] env h e1 (Tl [46, 46])) (z : EV prog w n [] env h e2 (Tl l)) (hl : l.length < 4000000) : EV prog w n Z env h (.Call (.Attribute o "sub" apos) [e1, e2] [] pos) (Tl (dots true l)) :=
  ev_meth2 meth_sub hbase hs hline x (flat_V _).mono y (mono_Tl _) z (fun s v k e => by
    have e' : v = .ref a := e
    subst e'
    obtain ⟨o, fs, c, oc, xs, n, e, x1, x2, _⟩ := p.ex
    exact ⟨⟨o, k _ _ e, x1⟩, fun b eb => by cases eb; exact ⟨o, k _ _ e, x2⟩⟩) fun A s E u v q rm k hu ⟨x2, t2, e2, q2⟩ ⟨x3, t3, e3, q3⟩ => by
    have hu' : u = .ref a := hu
    subst hu' e2 e3 q3
    exact call_sub1 (p.sub k) q2 hl fun s' v k' ht => ⟨k', ht⟩
theorem ev_sub2 {o e1 e2 : Expr} {apos pos : Pos} {a : Addr} {l : List Nat} (p : IsPat h a code2) (hbase : attributeBase o "sub" env (eval o env) = eval o env) (hs : starEach [e1, e2] env = [(false, eval e1 env), (false, eval e2 env)]) (hline : (apos.endLine == pos.line) = true)
    (x : EV prog w n [] env h o (V (.ref a))) (y : EV prog w n [] env h e1 (Tl [13, 10])) (z : EV prog w n [] env h e2 (Tl l)) (hl : l.length < 4000000) : EV prog w n Z env h (.Call (.Attribute o "sub" apos) [e1, e2] [] pos) (Tl (crlf false l)) :=
  ev_meth2 meth_sub hbase hs hline x (flat_V _).mono y (mono_Tl _) z (fun s v k e => by
    have e' : v = .ref a := e
    subst e'
    obtain ⟨o, fs, c, oc, xs, n, e, x1, x2, _⟩ := p.ex
    exact ⟨⟨o, k _ _ e, x1⟩, fun b eb => by cases eb; exact ⟨o, k _ _ e, x2⟩⟩) fun A s E u v q rm k hu ⟨x2, t2, e2, q2⟩ ⟨x3, t3, e3, q3⟩ => by
    have hu' : u = .ref a := hu
    subst hu' e2 e3 q3
    exact call_sub2 (p.sub k) q2 hl fun s' v k' ht => ⟨k', ht⟩

theorem pc_qd {h : Heap} (pf : PF (K1 w.params) h) {l : List Nat} (hl : l.length < 1000000) : PC prog w 4 h 146 [Tl l] (Tl (quote l)) := by
  intro A s Z vs R rm k zl x q
  obtain ⟨_, rfl, y, t, rfl, ex⟩ := args1 x
  have pf' := pf.sub k
  obtain ⟨fa, hb⟩ := fnAt_of pf'.X pf'.nl (fnB_qd _)
  refine enter_fn (n := 3) (Z := Z) (Xc := []) (μ := []) (ρ := [(Str.ofString "data", Tl l)]) (binds := [(Str.ofString "data", .str y t)]) rm fa hb (by kernel_rfl) (by kernel_rfl) ?_ (by simp) (fun _ _ h => nomatch h) zl (by kernel_rfl) (by kernel_rfl) (by kernel_rfl) (by simp)
    (.cons ⟨y, t, rfl, ex⟩ (mono_Tl _) .nil) (by simp) (by simp) fun L s₁ E' hL rm' l₁ F sub => ?_
  · intro L x hx
    simp only [List.mem_cons, List.not_mem_nil, or_false] at hx
    subst hx
    exact .inl (by kernel_rfl)
  have ge : GEnv (callEnvC (fdOf (K1 w.params) 146) L 146) := ⟨by kernel_rfl, by kernel_rfl, by kernel_rfl⟩
  have p1 := pf'.sub sub
  have hcl := crlf_len false l
  refine bl_return (S := Tl (quote l)) rm' (Z := L :: (cellAddrs L (fdOf (K1 w.params) 146).scope ++ Z)) ?_ fun v s' k' hv => q v s' ?_ ?_
  · refine ev_sub1 (isPat_of p1.X (pat1 _)) (by kernel_rfl) (by kernel_rfl) (by kernel_rfl) (ev_glob ge (gn_re1 p1) (by kernel_rfl) (by decide +kernel)) (ev_tl rfl) ?_ (by lia)
    refine ev_sub2 (isPat_of p1.X (pat2 _)) (by kernel_rfl) (by kernel_rfl) (by kernel_rfl) (ev_glob ge (gn_re2 p1) (by kernel_rfl) (by decide +kernel)) ?_ ?_ (by lia)
    · exact (ev_glob ge (gn_crlf p1) (by kernel_rfl) (by decide +kernel)).ofV fun h => strB_Tl (crlf_tl _) _
    · exact ev_var F.loc lk_here (by simp) (by decide +kernel)
  · obtain ⟨h1, tk1, e1⟩ := l₁
    obtain ⟨h2, tk2, e2, k2⟩ := k'
    subst e1 e2
    exact ⟨h2, tk2, rfl, sub.trans k2⟩
  · exact hv
end
end
section
open PySem PySem.W PyProof.Rows
set_option Elab.async false
set_option maxRecDepth 100000
set_option linter.unusedVariables false

/-! ## a mail, row by row -/
noncomputable abbrev Clean (r : List Nat) : Prop := ∀ c ∈ r, c ≠ 10 ∧ c ≠ 13
noncomputable def mailT : List (List Nat × List Nat) → List Nat → List Nat
  | [], l => l
  | (r, e) :: t, l => r ++ (e ++ mailT t l)
noncomputable def isEnd (e : List Nat) : Prop := e = [10] ∨ e = [13] ∨ e = [13, 10]
noncomputable def okM : List (List Nat × List Nat) → List Nat → Prop
  | [], l => Clean l
  | (r, e) :: t, l => Clean r ∧ isEnd e ∧ (e = [13] → (mailT t l).head? ≠ some 10) ∧ okM t l
theorem crlf_clean : ∀ {r : List Nat} (p : Bool) (t : List Nat), Clean r → crlf p (r ++ t) = r ++ crlf (if r = [] then p else false) t
  | [], p, t, _ => by simp
  | c :: r, p, t, h => by
    have h1 := h c (.head _)
    rw [List.cons_append, crlf]
    have e1 : (c == 13) = false := by simpa using h1.2
    have e2 : (c == 10) = false := by simpa using h1.1
    rw [e1, e2]
    simp only [Bool.false_eq_true, if_false]
    rw [crlf_clean false t fun c m => h c (.tail _ m)]
    simp
theorem crlf_tr {t : List Nat} (h : t.head? ≠ some 10) : crlf true t = crlf false t := by
  cases t with
  | nil => rfl
  | cons c t =>
    have : (c == 10) = false := by simpa using h
    rw [crlf, crlf, this]
    simp
theorem crlf_end {e t : List Nat} (h : isEnd e) (k : e = [13] → t.head? ≠ some 10) : crlf false (e ++ t) = 13 :: 10 :: crlf false t := by
  rcases h with rfl | rfl | rfl
  · rfl
  · show 13 :: 10 :: crlf true t = _
    rw [crlf_tr (k rfl)]
  · rfl
theorem joinRows_cons (r : List Nat) {rs : List (List Nat)} (h : rs ≠ []) : joinRows (r :: rs) = r ++ 13 :: 10 :: joinRows rs := by
  cases rs with
  | nil => exact absurd rfl h
  | cons a b => rfl
theorem crlf_mail : ∀ (items : List (List Nat × List Nat)) (l : List Nat), okM items l → crlf false (mailT items l) = joinRows (items.map (·.1) ++ [l])
  | [], l, h => by
    show crlf false l = l
    have := crlf_clean false [] (r := l) h
    simpa [crlf] using this
  | (r, e) :: t, l, ⟨h1, h2, h3, h4⟩ => by
    show crlf false (r ++ (e ++ mailT t l)) = _
    rw [crlf_clean false _ h1]
    have : (if r = [] then false else false) = false := by split <;> rfl
    rw [this, crlf_end h2 h3, crlf_mail t l h4, List.map_cons, List.cons_append, joinRows_cons _ (by simp)]
noncomputable def dot1 (r : List Nat) : List Nat := match r with | 46 :: _ => 46 :: r | _ => r
theorem dots_false : ∀ {r : List Nat} (t : List Nat), Clean r → dots false (r ++ t) = r ++ dots false t
  | [], t, _ => rfl
  | c :: r, t, h => by
    have e2 : (c == 10) = false := by simpa using (h c (.head _)).1
    rw [List.cons_append, dots, e2, dots_false t fun c m => h c (.tail _ m)]
    simp
theorem dots_row {r : List Nat} (t : List Nat) (h : Clean r) : dots true (r ++ 13 :: 10 :: t) = dot1 r ++ 13 :: 10 :: dots true t := by
  cases r with
  | nil => rfl
  | cons c r =>
    have e2 : (c == 10) = false := by simpa using (h c (.head _)).1
    rw [List.cons_append, dots, e2, dots_false _ fun c m => h c (.tail _ m)]
    have e3 : dots false (13 :: 10 :: t) = 13 :: 10 :: dots true t := rfl
    rw [e3]
    by_cases hc : c = 46
    · subst hc; rfl
    · have : (c == 46) = false := by simpa using hc
      rw [this]
      have : dot1 (c :: r) = c :: r := by
        unfold dot1
        split
        · rename_i e; injection e with e _; exact absurd e hc
        · rfl
      rw [this]; simp
theorem dots_last {r : List Nat} (h : Clean r) : dots true r = dot1 r := by
  cases r with
  | nil => rfl
  | cons c r =>
    have e2 : (c == 10) = false := by simpa using (h c (.head _)).1
    have := dots_false (r := r) [] fun c m => h c (.tail _ m)
    rw [List.append_nil] at this
    rw [dots, e2, this]
    by_cases hc : c = 46
    · subst hc; simp [dots, dot1]
    · have : (c == 46) = false := by simpa using hc
      rw [this]
      have : dot1 (c :: r) = c :: r := by
        unfold dot1
        split
        · rename_i e; injection e with e _; exact absurd e hc
        · rfl
      rw [this]; simp [dots]
theorem dots_rows : ∀ {rs : List (List Nat)}, (∀ r ∈ rs, Clean r) → dots true (joinRows rs) = joinRows (rs.map dot1)
  | [], _ => rfl
  | [r], h => dots_last (h r (.head _))
  | r :: a :: b, h => by
    rw [joinRows_cons r (by simp), dots_row _ (h r (.head _)), dots_rows fun r m => h r (.tail _ m)]
    rfl
theorem okM_clean : ∀ {items : List (List Nat × List Nat)} {l : List Nat}, okM items l → ∀ r ∈ items.map (·.1) ++ [l], Clean r
  | [], l, h, r, m => by simp at m; subst m; exact h
  | (r, e) :: t, l, ⟨h1, _, _, h4⟩, r', m => by
    rw [List.map_cons, List.cons_append] at m
    rcases List.mem_cons.mp m with rfl | m
    · exact h1
    · exact okM_clean h4 _ m
theorem quote_mail {items : List (List Nat × List Nat)} {l : List Nat} (h : okM items l) : quote (mailT items l) = joinRows ((items.map (·.1) ++ [l]).map dot1) := by
  unfold quote
  rw [crlf_mail items l h, dots_rows (okM_clean h)]
/-! ## the juggler's rows -/
theorem dot1_clock (c : Nat) (h : c ≠ 0) : dot1 (List.replicate c 46) = List.replicate (c + 1) 46 := by
  cases c with
  | zero => exact absurd rfl h
  | succ c => rw [List.replicate_succ, List.replicate_succ, List.replicate_succ]; rfl
noncomputable def ends3 : List (List Nat) := [[10], [13], [13, 10]]
theorem ends3_end (i : Nat) : isEnd (ends3.getD (i % 3) []) := by
  have : i % 3 < 3 := Nat.mod_lt _ (by decide)
  generalize i % 3 = j at this
  unfold isEnd ends3
  rcases j with _ | _ | _ | j
  · simp
  · simp
  · simp
  · lia
theorem okM_of : ∀ {items : List (List Nat × List Nat)} {l : List Nat}, (∀ p ∈ items, Clean p.1 ∧ isEnd p.2) → Clean l → (∀ (i : Nat) p p', items[i]? = some p → items[i + 1]? = some p' → p.2 = [13] → p'.1 = [] → p'.2 ≠ [10]) → okM items l
  | [], l, _, h2, _ => h2
  | (r, e) :: t, l, h1, h2, h3 => by
    refine ⟨(h1 _ (.head _)).1, (h1 _ (.head _)).2, fun he => ?_, okM_of (fun p m => h1 p (.tail _ m)) h2 fun i p p' a b => h3 (i + 1) p p' (by simpa using a) (by simpa using b)⟩
    cases t with
    | nil =>
      show l.head? ≠ some 10
      cases l with
      | nil => simp
      | cons c l => have := (h2 c (.head _)).1; simpa using this
    | cons p t =>
      obtain ⟨r', e'⟩ := p
      show (r' ++ (e' ++ mailT t l)).head? ≠ some 10
      have hp := h1 (r', e') (.tail _ (.head _))
      cases r' with
      | cons c r' => have := (hp.1 c (.head _)).1; simpa using this
      | nil =>
        have hne := h3 0 (r, e) ([], e') rfl rfl he rfl
        rcases hp.2 with q | q | q
        · exact absurd q hne
        · dsimp only at q; subst q; simp
        · dsimp only at q; subst q; simp
theorem mailT_app : ∀ (a b : List (List Nat × List Nat)) (l : List Nat), mailT (a ++ b) l = a.flatMap (fun p => p.1 ++ p.2) ++ mailT b l
  | [], b, l => rfl
  | (r, e) :: a, b, l => by
    show r ++ (e ++ mailT (a ++ b) l) = _
    rw [mailT_app a b l, List.flatMap_cons]
    simp
end
section
open PySem PySem.W PyProof.Rows
set_option Elab.async false
set_option maxRecDepth 100000
set_option linter.unusedVariables false
section
variable {prog : Program} {w : World}
theorem pc_ap {h : Heap} (pf : PF (K1 w.params) h) {m : Int} (hm : m.natAbs < 16 ^ 20) : PC prog w 8 h 45 [I m] (By (ap m.natAbs).toArray) := by
  intro A s Z vs R rm k zl x q
  obtain ⟨_, rfl, t, rfl⟩ := args1 x
  have pf' := pf.sub k
  obtain ⟨fa, hb⟩ := fnAt_of pf'.X pf'.nl (fnB_ap _)
  refine enter_fn (n := 7) (Z := Z) (Xc := []) (μ := []) (ρ := [(Str.ofString "num", I m)]) (binds := [(Str.ofString "num", .int m t)]) rm fa hb (by kernel_rfl) (by kernel_rfl) ?_ (by simp) (fun _ _ h => nomatch h) zl (by kernel_rfl) (by kernel_rfl) (by kernel_rfl) (by simp)
    (.cons ⟨t, rfl⟩ (mono_I _) .nil) (by simp) (by simp) fun L s₁ E' hL rm' l F sub => ?_
  · intro L x hx
    simp only [List.mem_cons, List.not_mem_nil, or_false] at hx
    subst hx
    exact .inl (by kernel_rfl)
  have ge : GEnv (callEnvC (fdOf (K1 w.params) 45) L 45) := ⟨by kernel_rfl, by kernel_rfl, by kernel_rfl⟩
  refine bl_assign F rm' ev_bytes (flat_By _).mono (.inl (by kernel_rfl)) (by kernel_rfl) fun s₂ l₂ F₂ => ?_
  refine bl_assign F₂ rm' ev_bytes (flat_By _).mono (.inl (by kernel_rfl)) (by kernel_rfl) fun s₃ l₃ F₃ => ?_
  -- num = int(abs(num))
  have e1 : (if m < 0 then -m else m) = ((m.natAbs : Nat) : Int) := by split <;> lia
  have p3 := pf'.sub F₃.sub
  refine' bl_assign F₃ rm' (by walk_at "ev") (by walk_at "mono") (.inl (by kernel_rfl)) (by kernel_rfl) fun s₄ l₄ F₄ => ?_
  rw [e1] at F₄
  clear e1 F₃ F₂ p3
  generalize hN : m.natAbs = N at hm F₄
  -- the loop
  have hc16 : ∀ i : Nat, (((N / 16 ^ i : Nat) : Int)).fdiv 16 = ((N / 16 ^ (i + 1) : Nat) : Int) := fun i => by
    rw [Int.fdiv_eq_ediv_of_nonneg _ (by decide), Nat.pow_succ, ← Nat.div_div_eq_div_mul]; rfl
  have hm16 : ∀ i : Nat, (((N / 16 ^ i : Nat) : Int)).fmod 16 = ((N / 16 ^ i % 16 : Nat) : Int) := fun i => by
    rw [Int.fmod_eq_emod_of_nonneg _ (by decide)]; rfl
  have hle := apLen_le N 20 hm
  refine bl_while (N := apLen N) (μ := fun _ => []) (ρ := fun i => [(Str.ofString "num", I ((N / 16 ^ i : Nat) : Int)), (Str.ofString "val", By (apLow N i).toArray), (Str.ofString "AP", By apAll.toArray)]) (F₄.sel ?_) rm' (fun i s' l' F' hi => ?_) (fun i s' E' hi l' F' => ?_) fun s' l' F' => ?_
  · refine sel_cons ?_ (sel_cons ?_ (sel_cons ?_ sel_nil))
    · rw [Nat.pow_zero, Nat.div_one]; walk_at "lk"
    · walk_at "lk"
    · walk_at "lk"
  · have e : decide (i < apLen N) = ((((N / 16 ^ i : Nat) : Int)) != 0) := by
      have := apLen_lt N i
      by_cases h : i < apLen N
      · rw [decide_eq_true h]
        have h' := this.mp h
        symm; rw [bne_iff_ne]; intro q; exact h' (by generalize N / 16 ^ i = y at q; lia)
      · rw [decide_eq_false h]
        have h' : N / 16 ^ i = 0 := Decidable.byContradiction fun q => h (this.mpr q)
        rw [h']; rfl
    rw [e]
    exact evb_int (Z := []) (ev_var F'.loc lk_here (by simp) (by decide +kernel)) (by kernel_rfl)
  · have p4 := pf'.sub F'.sub
    refine' bl_assign2 (p := (((N / 16 ^ (i + 1) : Nat) : Int), ((N / 16 ^ i % 16 : Nat) : Int))) (R1 := I) (R2 := I) F' rm' ?_ (mono_I _) (mono_I _) (.inl (by kernel_rfl)) (.inl (by kernel_rfl)) (by kernel_rfl) (by kernel_rfl) fun s₅ l₅ F₅ => ?_
    · rw [← hc16, ← hm16]
      walk_at "ev"
    have p5 := pf'.sub F₅.sub
    refine' bl_assign (S := By (apLow N (i + 1)).toArray) F₅ rm' ?_ (flat_By _).mono (.inl (by kernel_rfl)) (by kernel_rfl) fun s₆ l₆ F₆ => ?_
    · have hcut : cut apAll (some ((N / 16 ^ i % 16 : Nat) : Int)) (some (((N / 16 ^ i % 16 : Nat) : Int) + 1)) = [apLetter (N / 16 ^ i % 16)] := by
        have hlt : N / 16 ^ i % 16 < 16 := Nat.mod_lt _ (by decide)
        generalize N / 16 ^ i % 16 = d at hlt
        revert d
        decide +kernel
      have e : (apLow N (i + 1)).toArray = (cut apAll (some ((N / 16 ^ i % 16 : Nat) : Int)) (some (((N / 16 ^ i % 16 : Nat) : Int) + 1))).toArray ++ (apLow N i).toArray := by
        rw [hcut]; apply Array.ext'; rw [Array.toList_append]; rfl
      rw [e]
      refine ev_binr (ev_cutb (by walk_at "ev") (ev_slice (List.forall_mem_nil _) (evp_some (by walk_at "ev")) (evp_some (by walk_at "ev")) evp_none) (by decide)) (by walk_at "ev") (flat_By _).mono (bin_addbytes ?_)
      have := apLow_len N i
      have hcl : (cut apAll (some ((N / 16 ^ i % 16 : Nat) : Int)) (some (((N / 16 ^ i % 16 : Nat) : Int) + 1))).length = 1 := by rw [hcut]; rfl
      show (List.toArray (cut apAll (some ((N / 16 ^ i % 16 : Nat) : Int)) (some (((N / 16 ^ i % 16 : Nat) : Int) + 1)))).size + (List.toArray (apLow N i)).size ≤ 16777216
      rw [List.size_toArray, List.size_toArray]
      lia
    · refine bl_nil ⟨.inl rfl, l₅.trans l₆, F₆.sel ?_⟩
      exact sel_cons (by walk_at "lk") (sel_cons (by walk_at "lk") (sel_cons (by walk_at "lk") sel_nil))
  · refine bl_return (S := By (ap N).toArray) (Z := L :: (cellAddrs L (fdOf (K1 w.params) 45).scope ++ Z)) rm' (by walk_at "ev") fun v s'' k'' hv => q v s'' ?_ (by rw [hN]; exact hv)
    have l3 := (l.trans (l₂.trans (l₃.trans l₄))).trans (l'.trans (klike k''))
    obtain ⟨h3, tk3, e3⟩ := l3
    exact ⟨h3, tk3, e3, by have := F'.sub.trans (ksub k''); rw [e3] at this; exact this⟩
end
end
section
open PySem PySem.W PyProof.Rows
set_option Elab.async false
set_option maxRecDepth 100000
set_option linter.unusedVariables false
section
variable {M : Model} {A : Around} {E : Value → Shared → Prop} {s : Shared} {K : Frag} {x C : Addr} {ox : Obj} {od : Option Obj}

/-- a method of an object, its class's own or a built-in one -/
theorem gm_K {name : Str} {pl : Sem Bool} {ga T : String} {v : Value} {Q : Value × List Value → Shared → Prop} (X : K.In s.heap) (I : InstAt s.heap x ox C od)
    (hga : findIn K (.ref C) "__getattribute__" = some (some (.builtin ga))) (hcan : (Manifest.canonical ga != "object.__getattribute__") = false)
    (hgn : findIn K (.ref C) "__getattr__" = some none) (hf : findIn K (.ref C) name = some (some v)) (ht : typeIn K v = some (.type T))
    (hT : T = "function" ∨ T = "method_descriptor" ∨ T = "wrapper_descriptor") (hd : ∀ o, od = some o → lookIn name o = some none) (q : Q (v, [.ref x]) s) : wpAny M A (getMethod (.ref x) name pl) Q E s := by
  have tX := I.type (M := M)
  have t0 : Looks M s.heap (specialOf (.ref x) "__getattribute__") (some (.builtin ga)) := tX.andThen (looks_findIn X hga)
  have t1 : Looks M s.heap (specialOf (.ref x) "__getattr__") none := tX.andThen (looks_findIn X hgn)
  have t2 : Looks M s.heap (specialOf (.ref x) name) (some v) := tX.andThen (looks_findIn X hf)
  have t3 : Looks M s.heap (typeOf v) (.type T) := looks_typeIn X ht
  unfold getMethod
  refine wpAny_bind (t0.here ?_)
  dsimp only
  rw [hcan]
  refine wpAny_bind (t1.here ?_)
  refine wpAny_bind (t2.here ?_)
  refine wpAny_bind (t3.here ?_)
  have hb : (Value.type T != .type "function" && Value.type T != .type "method_descriptor" && Value.type T != .type "wrapper_descriptor") = false := by
    rcases hT with rfl | rfl | rfl <;> decide
  have fin : wpAny M A (do rule "call.method-form"; pure (v, [Value.ref x])) Q E s := wpAny_bind (wpAny_rule (wpAny_pure q))
  simp only [Option.isSome_none, Bool.false_eq_true, if_false, hb]
  refine wpAny_bind (wpAny_loadPart I.at_ ?_)
  cases hdd : ox.dict with
  | none => exact fin
  | some d =>
    have hdict := I.dict
    rw [hdd] at hdict
    cases ho : od with
    | none => rw [ho] at hdict; exact hdict.elim
    | some o =>
      rw [ho] at hdict
      have hl := nsLook_of (hd o ho)
      refine wpAny_bind ?_
      show wpAny M A (loadPart d _ >>= fun o => nsLook name o) _ _ _
      refine wpAny_bind (wpAny_loadPart hdict ?_)
      rw [hl]
      exact wpAny_pure fin
end

section
theorem acc_ga (P : Params) : findIn (K1 P) (.ref 125) "__getattribute__" = some (some (.builtin "list.__getattribute__")) := by kernel_rfl
theorem acc_can : (Manifest.canonical "list.__getattribute__" != "object.__getattribute__") = false := by decide +kernel
theorem acc_gn (P : Params) : findIn (K1 P) (.ref 125) "__getattr__" = some none := by kernel_rfl
theorem acc_push (P : Params) : findIn (K1 P) (.ref 125) "push" = some (some (.ref 69)) := by kernel_rfl
theorem acc_pop (P : Params) : findIn (K1 P) (.ref 125) "pop" = some (some (.ref 85)) := by kernel_rfl
theorem acc_popf (P : Params) : findIn (K1 P) (.ref 125) "pop_from" = some (some (.ref 77)) := by kernel_rfl
theorem acc_pc (P : Params) : findIn (K1 P) (.ref 125) "part_count" = some (some (.ref 122)) := by kernel_rfl
theorem acc_len (P : Params) : findIn (K1 P) (.ref 125) "__len__" = some (some (.ref 92)) := by kernel_rfl
theorem acc_init (P : Params) : findIn (K1 P) (.ref 125) "__init__" = some (some (.ref 62)) := by kernel_rfl
theorem acc_app (P : Params) : findIn (K1 P) (.ref 125) "append" = some (some (.builtin "list.append")) := by kernel_rfl
theorem acc_gi (P : Params) : findIn (K1 P) (.ref 125) "__getitem__" = some (some (.builtin "list.__getitem__")) := by kernel_rfl
theorem acc_si (P : Params) : findIn (K1 P) (.ref 125) "__setitem__" = some (some (.builtin "list.__setitem__")) := by kernel_rfl
theorem acc_sa (P : Params) : findIn (K1 P) (.ref 125) "__setattr__" = some (some (.builtin "object.__setattr__")) := by kernel_rfl
theorem acc_is (P : Params) : findIn (K1 P) (.ref 125) "_initial_size" = some none := by kernel_rfl
noncomputable def accCd (K : Frag) : ClassData := (clsIn K 125).getD default
theorem acc_cd (P : Params) : clsIn (K1 P) 125 = some (accCd (K1 P)) := by kernel_rfl
theorem acc_mro (P : Params) : (accCd (K1 P)).mro = [.ref 125, .type "list", .type "object"] := by kernel_rfl
theorem acc_hasDict (P : Params) : (accCd (K1 P)).hasDict = true := by kernel_rfl
theorem acc_fn79 (P : Params) : typeIn (K1 P) (.ref 69) = some (.type "function") := by kernel_rfl
theorem acc_fn95 (P : Params) : typeIn (K1 P) (.ref 85) = some (.type "function") := by kernel_rfl
theorem acc_fn87 (P : Params) : typeIn (K1 P) (.ref 77) = some (.type "function") := by kernel_rfl
theorem acc_fn132 (P : Params) : typeIn (K1 P) (.ref 122) = some (.type "function") := by kernel_rfl
theorem acc_fn72 (P : Params) : typeIn (K1 P) (.ref 62) = some (.type "function") := by kernel_rfl
theorem acc_fn102 (P : Params) : typeIn (K1 P) (.ref 92) = some (.type "function") := by kernel_rfl
theorem acc_tapp (P : Params) : typeIn (K1 P) (.builtin "list.append") = some (.type "method_descriptor") := by kernel_rfl
end
end
section
open PySem PySem.W PyProof.Rows
set_option Elab.async false
set_option maxRecDepth 100000
set_option linter.unusedVariables false
section
variable {prog : Program} {w : World} {A : Around} {E : Value → Shared → Prop} {s : Shared}
/-- what a built-in's code gives -/
noncomputable abbrev FinP (prog : Program) (w : World) (A : Around) (Q E : Value → Shared → Prop) : Fin → Shared → Prop := fun fin s' => match fin with | .done f => wants Q E (.ok f) s' | .again c' => c'.quiet = true ∧ codeAny (model prog w) A c' (wants Q E) s'
theorem call_bi {id owner nm : String} {B : Builtin} {self : Value} {rest : List Value} {Q : Value → Shared → Prop} (hsplit : splitId id = some (owner, nm))
    (hkind : (Manifest.find? owner).bind (·.attrs.lookup nm) = some .slot ∨ (Manifest.find? owner).bind (·.attrs.lookup nm) = some .method) (plain : plainId id = true)
    (hI : Looks (model prog w) s.heap (isInstance self (.type owner)) true) (entry : entryFor table id = some B) (ha : argsOk id ⟨self :: rest, []⟩)
    (body : wpAny (model prog w) A.in1 (B ⟨self :: rest, []⟩) (FinP prog w A Q E) (fun e s' => wants Q E (.error e) s') s) :
    wpAny (model prog w) A (call (.builtin id) (self :: rest)) Q E s := by
  refine wpAny_call (codeAny_call_builtin plain entry ?_)
  have hk : builtinKind id = (Manifest.find? owner).bind (·.attrs.lookup nm) := by simp only [builtinKind, hsplit]
  rcases hkind with h | h <;>
  · simp only [checkBuiltinCall, hk, h, hsplit]
    refine wpAny_bind (hI.here ?_)
    simp only [Bool.not_true, Bool.false_eq_true, if_false]
    cases hsig : Manifest.signature? id with
    | none => exact wpAny_pure body
    | some sig =>
      simp only [argsOk, hsig] at ha
      have h2 : Bind.checkArgs id sig ⟨self :: rest, []⟩ = pure () := ha
      show wpAny _ _ (Bind.checkArgs id sig ⟨self :: rest, []⟩) _ _ s
      rw [h2]; exact wpAny_pure body
theorem isInst_list {K : Frag} {h : Heap} {x C : Addr} {ox : Obj} {od : Option Obj} {cd : ClassData} {base : Value} (X : K.In h) (I : InstAt h x ox C od) (hc : clsIn K C = some cd) (hm : cd.mro = [.ref C, .type "list", .type "object"])
    (hb : base = .type "list" ∨ base = .type "object" ∨ base = .ref C) : Looks (model prog w) h (isInstance (.ref x) base) true := by
  refine I.type.andThen (looks_mroIn X ?_)
  unfold mroIn
  rw [hc, Option.bind_some, hm, if_neg (by simp)]
  rcases hb with rfl | rfl | rfl <;> simp
end

/-- an accumulator -/
noncomputable abbrev accObj (d : Addr) (xs : Array Value) (n : Nat) : Obj := { cls := .ref 125, dict := some d, data := .seq xs n }
/-- its first size -/
noncomputable def SizeD (d : Addr) (k : Int) (h : Heap) : Prop := ∃ od v, h.get? d = some od ∧ lookIn "_initial_size" od = some (some v) ∧ (∃ t, v = .int k t) ∧ (∀ name ∈ ([Str.ofString "push", Str.ofString "pop", Str.ofString "pop_from", Str.ofString "part_count", Str.ofString "append"] : List Str), lookIn name od = some none) ∧ ∃ H kt, od = { cls := .type "dict", data := .dict #[⟨H, .str "_initial_size" kt, v⟩] 1 }
structure AccAt (K : Frag) (h : Heap) (x d : Addr) (xs : Array Value) (n : Nat) (k : Int) : Prop where
  at_ : h.get? x = some (accObj d xs n)
  size : SizeD d k h
theorem AccAt.sub {K h h' x d xs n k} (k' : Sub h h') (a : AccAt K h x d xs n k) : AccAt K h' x d xs n k := ⟨k' _ _ a.at_, let ⟨od, v, e, r⟩ := a.size; ⟨od, v, k' _ _ e, r⟩⟩
theorem AccAt.inst {K h x d xs n k} (a : AccAt K h x d xs n k) : ∃ od, InstAt h x (accObj d xs n) 125 (some od) ∧ ∀ name ∈ ([Str.ofString "push", Str.ofString "pop", Str.ofString "pop_from", Str.ofString "part_count", Str.ofString "append"] : List Str), lookIn name od = some none := by
  obtain ⟨od, v, e, e1, e2, e3, _⟩ := a.size
  exact ⟨od, ⟨a.at_, rfl, rfl, e⟩, e3⟩

section
variable {prog : Program} {w : World} {A : Around} {E : Value → Shared → Prop} {s : Shared} {x d : Addr} {xs : Array Value} {n : Nat} {k : Int}
noncomputable abbrev KW (w : World) : Frag := K1 w.params
theorem acc_inst {h : Heap} (X : (KW w).In h) (a : AccAt (KW w) h x d xs n k) {base : Value} (hb : base = .type "list" ∨ base = .type "object" ∨ base = .ref 125) : Looks (model prog w) h (isInstance (.ref x) base) true := by
  obtain ⟨od, I, _⟩ := a.inst
  exact isInst_list X I (acc_cd _) (acc_mro _) hb
/-- its items turn -/
noncomputable abbrev turned (h : Heap) (x : Addr) (f : Array Value → Array Value) : Heap := h.update x (Obj.mapSeq f)
theorem turned_at {h : Heap} {ox : Obj} (e : h.get? x = some (accObj d xs n)) (f : Array Value → Array Value) : ∃ n', (turned h x f).get? x = some (accObj d (f xs) n') := ⟨_, Heap.get?_update_self _ e rfl⟩
theorem turned_other {h : Heap} {b : Addr} {o : Obj} (f : Array Value → Array Value) (hb : b ≠ x) (e : h.get? b = some o) : (turned h x f).get? b = some o := (Heap.get?_update_other _ _ (Ne.symm hb)).trans e
theorem AccAt.turn {K h} (a : AccAt K h x d xs n k) (hd : d ≠ x) (f : Array Value → Array Value) : ∃ n', AccAt K (turned h x f) x d (f xs) n' k := by
  obtain ⟨n', e⟩ := turned_at (ox := accObj d xs n) a.at_ f
  obtain ⟨od, v, e1, r⟩ := a.size
  exact ⟨n', e, od, v, turned_other f hd e1, r⟩
theorem AccAt.ne {K h} (a : AccAt K h x d xs n k) : d ≠ x := by
  rintro rfl
  obtain ⟨od, v, e1, e2, _⟩ := a.size
  rw [a.at_] at e1; cases e1
  cases e2

theorem app_acc {v : Value} {Q : Value → Shared → Prop} (X : (KW w).In s.heap) (a : AccAt (KW w) s.heap x d xs n k) (hs : xs.size ≤ 1000)
    (q : Q .none { s with heap := turned s.heap x (·.push v) }) : wpAny (model prog w) A (call (.builtin "list.append") [.ref x, v]) Q E s := by
  refine call_bi (owner := "list") (nm := "append") (by decide +kernel) (by first | exact .inl (by decide +kernel) | exact .inr (by decide +kernel)) (by decide +kernel) (acc_inst X a (.inl rfl)) F.entry_list_append (F.args_list_append_2 _ _) ?_
  have ho := a.at_
  show wpAny _ _ (do updateSeq x (·.push v); ret .none) _ _ s
  refine wpAny_bind (wpAny_updateSeq ho rfl ?_ (by rw [sizeLine_eq]; lia) (by rw [Array.size_push, sizeLine_eq]; lia))
  exact wpAny_pure q
theorem pop_body {v : Value} {P : Fin → Shared → Prop} {E' : Value → Shared → Prop} {A' : Around} (ho : s.heap.get? x = some (accObj d xs n)) (hs : xs.size ≤ 1000) (hv : xs.toList.getLast? = some v)
    (q : P (.done (.ret v)) { s with heap := turned s.heap x (·.eraseIdxIfInBounds (xs.size - 1)) }) : wpAny (model prog w) A' (Builtin.«list.pop» ⟨[.ref x], []⟩) P E' s := by
  have hne : 0 < xs.size := by
    rcases Nat.eq_zero_or_pos xs.size with h0 | h0
    · have : xs.toList = [] := List.eq_nil_of_length_eq_zero (by simpa using h0)
      rw [this] at hv; cases hv
    · exact h0
  obtain ⟨hh, g, dr, tk, os⟩ := s
  unfold Builtin.«list.pop»
  dsimp only at ho
  repeat lk
  have he : xs.isEmpty = false := by rw [Array.isEmpty_eq_false_iff]; exact fun q => by rw [q] at hne; exact Nat.lt_irrefl _ hne
  have hi : seqIndex? (-1) xs.size = some (xs.size - 1) := by
    rw [seqIndex_neg (by decide) (by lia)]
    congr 1; lia
  have hx : xs[xs.size - 1]? = some v := by
    rw [List.getLast?_eq_getElem?] at hv
    rw [← hv]; simp
  simp only [he, hi, Option.bind_some, hx, Option.map_some, Bool.false_eq_true, if_false]
  refine wpAny_bind (wpAny_updateSeq ho rfl ?_ (by rw [sizeLine_eq]; lia) ?_)
  · exact wpAny_pure q
  · rw [sizeLine_eq]; unfold Array.eraseIdxIfInBounds; split <;> simp <;> lia
theorem looks_noIndex {M : Model} {h : Heap} {sl : Addr} {o : Obj} (e : h.get? sl = some o) (c : o.cls = .type "slice") : Looks M h (specialOf (.ref sl) "__index__") none :=
  (((Looks.ld e).andThen .now : Looks M h (typeOf (.ref sl)) o.cls)).andThen (c ▸ Looks.of_pure slice_no_index)
theorem getsl_acc {od' : Option Addr} {osl' : Array (Option Value)} {sl : Addr} {i : Int} {t : Tok} {Q : Value → Shared → Prop} (X : (KW w).In s.heap) (a : AccAt (KW w) s.heap x d xs n k) (hs : xs.size ≤ 1000) (hsl : s.heap.get? sl = some ⟨.type "slice", od', .fields #[.int i t, .none, .none], osl'⟩)
    (q : Q (.ref s.heap.objs.size) { s with heap := s.heap.push { cls := .type "list", data := .seq (slicePick xs (some i) none none) } }) : wpAny (model prog w) A (call (.builtin "list.__getitem__") [.ref x, .ref sl]) Q E s := by
  refine call_bi (owner := "list") (nm := "__getitem__") (by decide +kernel) (by first | exact .inl (by decide +kernel) | exact .inr (by decide +kernel)) (by decide +kernel) (acc_inst X a (.inl rfl)) entry_list_getitem (args_list_getitem _ _) ?_
  have ho := a.at_
  obtain ⟨hh, g, dr, tk, os⟩ := s
  unfold Builtin.«list.__getitem__»
  dsimp only at ho hsl
  have n1 := looks_noIndex (M := model prog w) hsl rfl
  have f0 := looks_field (M := model prog w) hsl 0 (v := .int i t) rfl
  have f1 := looks_field (M := model prog w) hsl 1 (v := .none) rfl
  have f2 := looks_field (M := model prog w) hsl 2 (v := .none) rfl
  have t1 : Looks (model prog w) hh (typeOf (.ref sl)) (.type "slice") := (Looks.ld hsl).andThen .now
  unfold Builtin.List.listSubscript? Builtin.List.listSliceParts
  repeat lk
  show wpAny _ _ (newObj (.type "list") (.seq (slicePick xs (some i) none none))) _ _ _
  refine wpAny_newObj_type (wpAny_pure q) ?_
  show (slicePick xs (some i) none none).size ≤ sizeLine
  have := slicePick_size_le xs (some i) none none
  rw [sizeLine_eq]; lia
theorem three_le {a c A B : Nat} (h1 : a ≤ 1000) (h2 : c ≤ 1000) : min A a + (c + (a - B)) ≤ 16777217 := by
  have := Nat.min_le_right A a
  lia
theorem setsl_acc {od' : Option Addr} {osl' : Array (Option Value)} {sl l : Addr} {i : Int} {t : Tok} {ol : Nat} {ys : Array Value} {Q : Value → Shared → Prop} (X : (KW w).In s.heap) (a : AccAt (KW w) s.heap x d xs n k) (hs : xs.size ≤ 1000) (hsl : s.heap.get? sl = some ⟨.type "slice", od', .fields #[.int i t, .none, .none], osl'⟩)
    (hl : s.heap.get? l = some { cls := .type "list", data := .seq ys ol }) (hlx : l ≠ x) (hy : ys.size ≤ 1000)
    (q : ∀ f, f xs = xs.extract 0 (max 0 (min (if i < 0 then i + xs.size else i) xs.size)).toNat ++ ys ++ xs.extract (max (max 0 (min (if i < 0 then i + xs.size else i) xs.size)) (xs.size : Int)).toNat xs.size →
      Q .none { s with heap := turned s.heap x f }) : wpAny (model prog w) A (call (.builtin "list.__setitem__") [.ref x, .ref sl, .ref l]) Q E s := by
  refine call_bi (owner := "list") (nm := "__setitem__") (by decide +kernel) (by first | exact .inl (by decide +kernel) | exact .inr (by decide +kernel)) (by decide +kernel) (acc_inst X a (.inl rfl)) entry_list_setitem (args_list_setitem _ _ _) ?_
  have ho := a.at_
  obtain ⟨hh, g, dr, tk, os⟩ := s
  unfold Builtin.«list.__setitem__»
  dsimp only at ho hsl hl
  have n1 := looks_noIndex (M := model prog w) hsl rfl
  have f0 := looks_field (M := model prog w) hsl 0 (v := .int i t) rfl
  have f1 := looks_field (M := model prog w) hsl 1 (v := .none) rfl
  have f2 := looks_field (M := model prog w) hsl 2 (v := .none) rfl
  have t1 : Looks (model prog w) hh (typeOf (.ref sl)) (.type "slice") := (Looks.ld hsl).andThen .now
  have t2 : Looks (model prog w) hh (typeOf (.ref l)) (.type "list") := (Looks.ld hl).andThen .now
  have e1 : (x == l) = false := by simpa using fun q : x = l => hlx q.symm
  have e2 : Builtin.List.listTooLong (xs.size + ys.size) = false := by simp [Builtin.List.listTooLong, sizeLine_eq]; lia
  unfold Builtin.List.listSubscript? Builtin.List.listSliceParts Builtin.List.listSameRef Builtin.List.listAllItems
  repeat lk
  simp only [e1, Bool.false_eq_true, if_false]
  repeat lk
  simp only [e2, Bool.false_eq_true, if_false]
  repeat lk
  refine wpAny_update ho ?_
  refine wpAny_lookBehind (o := Obj.mapSeq _ (accObj d xs n)) (Heap.get?_update_self _ ho rfl) (pastItsLine_seq ?_) ?_
  · rw [sizeLine_eq]; simp; exact three_le hs hy
  · refine wpAny_bind (wpAny_letGo (wpAny_pure (q _ ?_)))
    simp
/-- subscripts of such an object go the built-in's way -/
theorem key_acc {name : Str} {kv : Value} {Q : Value → Shared → Prop} (X : (KW w).In s.heap) (a : AccAt (KW w) s.heap x d xs n k) (q : Q kv s) : wpAny (model prog w) A (sequenceKey (.ref x) kv name) Q E s := by
  obtain ⟨od, I, _⟩ := a.inst
  unfold sequenceKey
  refine wpAny_bind (I.type.here ?_)
  have hno : (seqItemTypes.all fun n => subIn (KW w) (.ref 125) (.type n) == some false) = true := by kernel_rfl
  refine wpAny_bind ((anyM_none X hno).here ?_)
  rw [if_pos (show (!false) = true from rfl)]
  exact wpAny_pure q
theorem gi_acc {od' : Option Addr} {osl' : Array (Option Value)} {sl : Addr} {i : Int} {t : Tok} {Q : Value → Shared → Prop} (X : (KW w).In s.heap) (a : AccAt (KW w) s.heap x d xs n k) (hs : xs.size ≤ 1000) (hsl : s.heap.get? sl = some ⟨.type "slice", od', .fields #[.int i t, .none, .none], osl'⟩)
    (q : Q (.ref s.heap.objs.size) { s with heap := s.heap.push { cls := .type "list", data := .seq (slicePick xs (some i) none none) } }) : wpAny (model prog w) A (getItem (.ref x) (.ref sl)) Q E s := by
  obtain ⟨od, I, _⟩ := a.inst
  unfold getItem
  refine wpAny_holding (wpAny_bind (key_acc X a ?_))
  unfold callSpecial? specialOf
  refine wpAny_bind (wpAny_bind (wpAny_bind (I.type.here ((looks_findIn X (acc_gi w.params)).here (wpAny_holding ?_)))))
  rw [slot_list_getitem.bind]
  refine wpAny_bind (wpAny_pure (wpAny_bind (getsl_acc X a hs hsl (wpAny_pure (wpAny_pure q)))))
theorem si_acc {od' : Option Addr} {osl' : Array (Option Value)} {sl l : Addr} {i : Int} {t : Tok} {ol : Nat} {ys : Array Value} {Q : Unit → Shared → Prop} (X : (KW w).In s.heap) (a : AccAt (KW w) s.heap x d xs n k) (hs : xs.size ≤ 1000) (hsl : s.heap.get? sl = some ⟨.type "slice", od', .fields #[.int i t, .none, .none], osl'⟩)
    (hl : s.heap.get? l = some { cls := .type "list", data := .seq ys ol }) (hlx : l ≠ x) (hy : ys.size ≤ 1000)
    (q : ∀ f, f xs = xs.extract 0 (max 0 (min (if i < 0 then i + xs.size else i) xs.size)).toNat ++ ys ++ xs.extract (max (max 0 (min (if i < 0 then i + xs.size else i) xs.size)) (xs.size : Int)).toNat xs.size →
      Q () { s with heap := turned s.heap x f }) : wpAny (model prog w) A (setItem (.ref x) (.ref sl) (.ref l)) Q E s := by
  obtain ⟨od, I, _⟩ := a.inst
  unfold setItem
  refine wpAny_holding (wpAny_bind (key_acc X a ?_))
  unfold callSpecial? specialOf
  refine wpAny_bind (wpAny_bind (wpAny_bind (I.type.here ((looks_findIn X (acc_si w.params)).here (wpAny_holding ?_)))))
  rw [slot_list_setitem.bind]
  refine wpAny_bind (wpAny_pure (wpAny_bind (setsl_acc X a hs hsl hl hlx hy fun f hf => wpAny_pure (wpAny_pure (q f hf)))))
end
end
section
open PySem PySem.W PyProof.Rows
set_option Elab.async false
set_option maxRecDepth 100000
set_option linter.unusedVariables false
theorem slot_mdg : Slot "method_descriptor" "__get__" "method_descriptor.__get__" := .of (owner := "method_descriptor") (n := "__get__") (by rw [typeLookup_type, builtinLookup_eq_fast]; kernel_rfl) (by decide +kernel) (by decide +kernel) (by decide +kernel)
  (by first | exact .inl (by decide +kernel) | exact .inr (by decide +kernel)) (by rw [isSubtype_type]; kernel_rfl)
theorem slot_wdg : Slot "wrapper_descriptor" "__get__" "wrapper_descriptor.__get__" := .of (owner := "wrapper_descriptor") (n := "__get__") (by rw [typeLookup_type, builtinLookup_eq_fast]; kernel_rfl) (by decide +kernel) (by decide +kernel) (by decide +kernel)
  (by first | exact .inl (by decide +kernel) | exact .inr (by decide +kernel)) (by rw [isSubtype_type]; kernel_rfl)
theorem entry_mdg : entryFor table "method_descriptor.__get__" = some Builtin.«method_descriptor.__get__» := entryFor_of_tree (by kernel_rfl)
theorem entry_wdg : entryFor table "wrapper_descriptor.__get__" = some Builtin.«wrapper_descriptor.__get__» := entryFor_of_tree (by kernel_rfl)
theorem args_mdg (a b c : Value) : argsOk "method_descriptor.__get__" ⟨[a, b, c], []⟩ := by unfold argsOk; kernel_rfl
theorem args_wdg (a b c : Value) : argsOk "wrapper_descriptor.__get__" ⟨[a, b, c], []⟩ := by unfold argsOk; kernel_rfl
theorem acc_opq (P : Params) : nsIn (K1 P) cStatics "thirdparty.any" = some none := by kernel_rfl
theorem ty_lpop : typeOf (.builtin "list.pop") = pure (.type "method_descriptor") := by show builtinType _ = _; rw [builtinType_eq_fast]; kernel_rfl
theorem ty_llen : typeOf (.builtin "list.__len__") = pure (.type "wrapper_descriptor") := by show builtinType _ = _; rw [builtinType_eq_fast]; kernel_rfl
theorem ty_linit : typeOf (.builtin "list.__init__") = pure (.type "wrapper_descriptor") := by show builtinType _ = _; rw [builtinType_eq_fast]; kernel_rfl
noncomputable abbrev superObj (x : Addr) : Obj := { cls := .type "super", dict := none, data := .fields #[.ref 125, .ref x, .ref 125], slots := #[] }
noncomputable abbrev boundObj (T id : String) (x : Addr) : Obj := { cls := .type T, data := .fields #[.builtin id, .ref x] }
section
variable {prog : Program} {w : World} {A : Around} {E : Value → Shared → Prop} {s : Shared} {x d so : Addr} {xs : Array Value} {n : Nat} {k : Int}
theorem typeIs_of {s : Shared} {id T : String} (e : typeOf (.builtin id) = pure (.type T)) : s.TypeIs (.builtin id) T := by
  first
  | exact e
  | simpa [Shared.TypeIs, typeOf] using e
theorem acc_subl {h : Heap} (X : (KW w).In h) : Looks (model prog w) h (isSubtype (.ref 125) (.type "list")) true := looks_mroIn X (by kernel_rfl)
theorem mdg_pop {Q : Value → Shared → Prop} (X : (KW w).In s.heap) (hx : s.heap.get? x = some (accObj d xs n))
    (q : Q (.ref s.heap.objs.size) { s with heap := s.heap.push (boundObj "builtin_function_or_method" "list.pop" x) }) : wpAny (model prog w) A (call (.builtin "method_descriptor.__get__") [.builtin "list.pop", .ref x, .ref 125]) Q E s := by
  refine wpAny_call_entry slot_mdg (typeIs_of ty_lpop) entry_mdg ?_ (args_mdg _ _ _)
  have i1 := acc_subl (prog := prog) X
  have hin : ".".intercalate ("list.pop".cutAt '.').dropLast = "list" := by decide +kernel
  rw [← hin] at i1
  obtain ⟨hh, g, dr, tk, os⟩ := s
  dsimp only at i1 hx
  unfold Builtin.«method_descriptor.__get__»
  repeat lk
  exact ⟨_, rfl, q⟩
theorem wdg_any {id : String} {Q : Value → Shared → Prop} (hty : typeOf (.builtin id) = pure (.type "wrapper_descriptor")) (hin : ".".intercalate (id.cutAt '.').dropLast = "list") (X : (KW w).In s.heap) (hx : s.heap.get? x = some (accObj d xs n))
    (q : Q (.ref s.heap.objs.size) { s with heap := s.heap.push (boundObj "method-wrapper" id x) }) : wpAny (model prog w) A (call (.builtin "wrapper_descriptor.__get__") [.builtin id, .ref x, .ref 125]) Q E s := by
  refine wpAny_call_entry slot_wdg (typeIs_of hty) entry_wdg ?_ (args_wdg _ _ _)
  have i1 := acc_subl (prog := prog) X
  rw [← hin] at i1
  obtain ⟨hh, g, dr, tk, os⟩ := s
  dsimp only at i1 hx
  unfold Builtin.«wrapper_descriptor.__get__»
  repeat lk
  exact ⟨_, rfl, q⟩
theorem super_ga {K : Frag} {C so x : Addr} {h : Heap} {g : Array GenState} {dr : Drawn} {t : Nat} {os : OsState} {l₀ l : List Value} {name : Str} {tk : Tok} {id gid T : String} {Q : Fin → Shared → Prop}
    (hso : h.get? so = some { cls := .type "super", dict := none, data := .fields #[.ref C, .ref x, .ref C], slots := #[] }) (hno : Looks (model prog w) h (opaqueClassAbove (.ref C)) none)
    (hC : Looks (model prog w) h (mroOf (.ref C)) l₀) (hl : (l₀.dropWhile (· != .ref C)).drop 1 = l) (X : K.In h) (hf : alongIn K name l = some (some (.builtin id))) (hT : typeOf (.builtin id) = pure (.type T)) (hg : typeLookup (.type T) "__get__" = pure (some (.builtin gid)))
    (hxC : x ≠ C) (hn : (name == ("__class__" : Str)) = false)
    (hc : ∀ A E, wpAny (model prog w) A (call (.builtin gid) [.builtin id, .ref x, .ref C]) (fun v s' => Q (.done (.ret v)) s') E ⟨h, g, dr, t, os⟩) :
    wpAny (model prog w) A (Builtin.«super.__getattribute__» ⟨[.ref so, .str name tk], []⟩) Q E ⟨h, g, dr, t, os⟩ := by
  have hne : (Value.ref x == Value.ref C) = false := by simp [hxC]
  have hdt : ({ cls := .type "super", dict := none, data := .fields #[.ref C, .ref x, .ref C], slots := #[] } : Obj).data = .fields #[.ref C, .ref x, .ref C] := rfl
  have f0 : (#[.ref C, .ref x, .ref C] : Array Value)[0]? = some (.ref C) := rfl
  have f1 : (#[.ref C, .ref x, .ref C] : Array Value)[1]? = some (.ref x) := rfl
  have f2 : (#[.ref C, .ref x, .ref C] : Array Value)[2]? = some (.ref C) := rfl
  have hc' : ∀ A E (Q' : Value → Shared → Prop), (∀ v s', Q (.done (.ret v)) s' → Q' v s') → wpAny (model prog w) A (call (.builtin gid) [.builtin id, .ref x, .ref C]) Q' E ⟨h, g, dr, t, os⟩ := fun A E Q' k => wpAny_mono (hc A E) k fun _ _ e => e
  unfold Builtin.«super.__getattribute__»
  repeat (first
    | (with_reducible refine wpAny_field hso hdt f0 ?_) | (with_reducible refine wpAny_field hso hdt f1 ?_) | (with_reducible refine wpAny_field hso hdt f2 ?_)
    | (with_reducible refine ks_wpAny_notOpaque hno ?_)
    | (with_reducible refine Looks.at hC ?_; rw [hl])
    | (refine ks_forIn_along X (fun _ _ => rfl) rfl ?_ hf)
    | (with_reducible refine wpAny_of_eq hT ?_)
    | (with_reducible refine wpAny_of_eq hg ?_)
    | (with_reducible refine hc' _ _ _ fun v s' hv => ?_)
    | (simp only [hn, hne, Bool.or_false, Bool.false_eq_true, if_false])
    | wp_step
    | dsimp only)
  all_goals exact hv
/-- super().name, a built-in of list's -/
theorem gm_super {name : Str} {id gid T bT : String} {pl : Sem Bool} {Q : Value × List Value → Shared → Prop} (X : (KW w).In s.heap) (hx : s.heap.get? x = some (accObj d xs n)) (hso : s.heap.get? so = some (superObj x))
    (hn : (name == ("__class__" : Str)) = false) (ho : ownIn (KW w) name (.type "list") = some (some (.builtin id))) (hT : typeOf (.builtin id) = pure (.type T)) (hg : typeLookup (.type T) "__get__" = pure (some (.builtin gid)))
    (hc : ∀ (s : Shared) A E (Q : Value → Shared → Prop), (KW w).In s.heap → s.heap.get? x = some (accObj d xs n) → Q (.ref s.heap.objs.size) { s with heap := s.heap.push (boundObj bT id x) } → wpAny (model prog w) A (call (.builtin gid) [.builtin id, .ref x, .ref 125]) Q E s)
    (q : ∀ k, Q (.ref s.heap.objs.size, []) { s with heap := s.heap.push (boundObj bT id x), toks := k }) : wpAny (model prog w) A (getMethod (.ref so) name pl) Q E s := by
  obtain ⟨h, g, dr, t, os⟩ := s
  have hlk := F.ks_slot_super_ga.lookup
  have hcan := F.ks_canon_super_ga
  have hT' : ∀ t', (⟨h, g, dr, t', os⟩ : Shared).TypeIs (.ref so) "super" := fun _ => ⟨_, hso, rfl⟩
  unfold getMethod
  refine wpAny_bind (wpAny_specialOf (hT' _) hlk ?_)
  show wpAny _ _ (if (Manifest.canonical "super.__getattribute__" != "object.__getattribute__") = true then _ else _) _ _ _
  rw [if_pos hcan]
  unfold getAttr getAttrBy
  refine wpAny_bind (wpAny_bind (wpAny_mkText (wpAny_holding (wpAny_bind (wpAny_typeOf (hT' _) (wpAny_bind (wpAny_of_eq hlk ?_)))))))
  show wpAny _ _ (getAttrByItsOwn (.ref so) (.str name t) (.type "super") (.builtin "super.__getattribute__") true false) _ _ _
  unfold getAttrByItsOwn hookBefore callGetattribute boundAndCalled
  refine wpAny_bind (wpAny_of_eq (show (if onTheHeap (.type "super") then typeLookup (.type "super") "__getattr__" else pure none) = pure none from rfl) ?_)
  refine wpAny_bind (wpAny_attempt (wpAny_holding ?_))
  show wpAny _ _ (bindSpecial (.builtin "super.__getattribute__") (.ref so) >>= _) _ _ _
  refine wpAny_bind (wpAny_of_eq (F.ks_slot_super_ga.bind _) ?_)
  refine wpAny_mono (Q := fun v s' => v = .ref h.objs.size ∧ s' = ⟨h.push (boundObj bT id x), g, dr, t + 1, os⟩) (E := fun _ _ => False)
    (wpAny_call_entry F.ks_slot_super_ga (hT' _) F.ks_entry_super_ga ?_ (F.ks_gaArgs_super _ _)) (fun v s' hv => ?_) fun _ _ z => z.elim
  · have hno := looks_opaque (C := 125) (M := model prog w) X (acc_opq w.params)
    have hC : Looks (model prog w) h (mroOf (.ref 125)) (accCd (KW w)).mro := (looks_clsIn X (acc_cd w.params)).andThen .now
    rw [acc_mro] at hC
    have hf : alongIn (KW w) name [.type "list", .type "object"] = some (some (.builtin id)) := by unfold alongIn; rw [ho]
    have hxC : x ≠ 125 := by
      rintro rfl
      have h1 := acc_cd w.params
      unfold clsIn at h1
      split at h1
      · rename_i c dd cd' sl hq
        have h2 := X _ _ hq
        have h3 : h.get? 125 = some (accObj d xs n) := hx
        rw [h3] at h2; cases h2
      · cases h1
    exact super_ga hso hno hC rfl X hf hT hg hxC hn fun A E => hc ⟨h, g, dr, t + 1, os⟩ A E _ X hx ⟨_, rfl, rfl, rfl⟩
  · obtain ⟨rfl, rfl⟩ := hv
    exact wpAny_pure (wpAny_pure (q _))
end
end
section
open PySem PySem.W PyProof.Rows
set_option Elab.async false
set_option maxRecDepth 100000
set_option linter.unusedVariables false
section
variable {prog : Program} {w : World} {A : Around} {E : Value → Shared → Prop} {s : Shared} {x d b : Addr} {xs : Array Value} {n : Nat} {k : Int}
theorem cwb {T id : String} {pos : Pos} {Q : Value → Shared → Prop} (hT : T = "builtin_function_or_method" ∨ T = "method-wrapper") (hb : s.heap.get? b = some (boundObj T id x))
    (q : wpAny (model prog w) A (call (.ref b) []) Q E s) : wpAny (model prog w) A (callWith pos (.ref b) [] [] []) Q E s := by
  unfold callWith
  refine wpAny_bind (wpAny_holding (PySem.evalArgs_none (wpAny_bind (wpAny_standAt ?_))))
  simp only [List.any_nil, Bool.or_false]
  refine wpAny_bind (m := keeperOf (.ref b)) ?_
  unfold keeperOf
  refine wpAny_bind (wpAny_load hb ?_)
  have e1 : (Value.type T != .type "method") = true := by rcases hT with rfl | rfl <;> decide
  have e2 : (Value.type T == .type "builtin_function_or_method" || Value.type T == .type "method-wrapper") = true := by rcases hT with rfl | rfl <;> decide
  simp only [e1, e2, if_true]
  refine wpAny_pure ?_
  exact wpAny_bind (wpAny_mono q (fun r s₂ hr => wpAny_bind (wpAny_holding (wpAny_point (wpAny_pure hr)))) fun _ _ x => x)
theorem call_bound {T id : String} {B : Builtin} {Q : Value → Shared → Prop} (hT : T = "builtin_function_or_method" ∨ T = "method-wrapper") (hb : s.heap.get? b = some (boundObj T id x))
    (hck : wpAny (model prog w) A.in1 (checkBoundCall id ⟨[.ref x], []⟩) (fun _ s' => s' = s) (fun _ _ => False) s) (plain : plainId id = true) (entry : entryFor table id = some B)
    (body : wpAny (model prog w) A.in1 (B ⟨[.ref x], []⟩) (FinP prog w A Q E) (fun e s' => wants Q E (.error e) s') s) : wpAny (model prog w) A (call (.ref b) []) Q E s := by
  refine wpAny_call (codeAny_of_tree ?_)
  show wpAny _ A.in1 (callAny (.ref b) ⟨[], []⟩) _ _ s
  unfold callAny
  refine wpAny_bind (wpAny_load hb ?_)
  have e1 : (Value.type T == .type "method" || Value.type T == .type "builtin_function_or_method" || Value.type T == .type "method-wrapper") = true := by rcases hT with rfl | rfl <;> decide
  have e2 : (Value.type T != .type "method") = true := by rcases hT with rfl | rfl <;> decide
  simp only [e1, e2, if_true]
  refine wpAny_bind (wpAny_mono hck (fun _ s' e => ?_) fun _ _ e => e.elim)
  subst e
  refine wpAny_bind (wpAny_pure (wpAny_pure ?_))
  exact ⟨plainId_quiet plain _, codeAny_builtin entry (by rw [Around.under_plainId plain]; exact body)⟩
theorem ck_len : wpAny (model prog w) A (checkBoundCall "list.__len__" ⟨[.ref x], []⟩) (fun _ s' => s' = s) (fun _ _ => False) s := by
  have e : checkBoundCall "list.__len__" ⟨[.ref x], []⟩ = pure () := by kernel_rfl
  rw [e]; exact wpAny_pure rfl
theorem ck_init : wpAny (model prog w) A (checkBoundCall "list.__init__" ⟨[.ref x], []⟩) (fun _ s' => s' = s) (fun _ _ => False) s := by
  have e : checkBoundCall "list.__init__" ⟨[.ref x], []⟩ = pure () := by kernel_rfl
  rw [e]; exact wpAny_pure rfl
theorem acc_submod {h : Heap} (X : (KW w).In h) : Looks (model prog w) h (isSubtype (.ref 125) (.type "module")) false := looks_mroIn X (by kernel_rfl)
theorem ck_pop (X : (KW w).In s.heap) (hx : s.heap.get? x = some (accObj d xs n)) : wpAny (model prog w) A (checkBoundCall "list.pop" ⟨[.ref x], []⟩) (fun _ s' => s' = s) (fun _ _ => False) s := by
  have i0 : Looks (model prog w) s.heap (isInstance (.ref x) (.type "module")) false := ((Looks.ld hx).andThen .now : Looks (model prog w) s.heap (typeOf (.ref x)) (.ref 125)).andThen (acc_submod X)
  have hm : Manifest.signature? "list.pop" = some ⟨.positional, "list.pop", "pop", .self, [⟨"index", .posOnly, false⟩]⟩ := by kernel_rfl
  have c1 : Looks (model prog w) s.heap (classData 125) (accCd (KW w)) := looks_clsIn X (acc_cd _)
  have c2 : Looks (model prog w) s.heap (typeOf (.ref 125)) (.type "type") := looks_typeIn X (by kernel_rfl)
  obtain ⟨hh, g, dr, tk, os⟩ := s
  dsimp only at i0 c1 c2 hx
  unfold checkBoundCall
  have hk : builtinKind "list.pop" = some .method := by kernel_rfl
  rw [hm, hk]
  repeat lk
end
end
section
open PySem PySem.W PyProof.Rows
set_option Elab.async false
set_option maxRecDepth 100000
set_option linter.unusedVariables false
/-- the program's file and names -/
structure PH (prog : Program) : Prop where
  file : ((prog.main.file : Str) == ("/claim/cut.py" : Str)) = true
  top : (prog.main.scope.names.lookup ("super" : Str)).isSome = false
noncomputable def firstArg (fd : FuncData) : Option Str := ((fd.params.posonlyargs ++ fd.params.args).head?).map (·.arg)
noncomputable def fileOf (K : Frag) (c : Value) : Option Str := match c with
  | .ref a => (match K.lookup a with | some o => (match o.data with | .fields vs => (match vs.toList.drop 2 with | Value.str f _ :: _ => some f | _ => none) | _ => none) | none => none)
  | _ => none
structure SEnv (K : Frag) (env : Env) (f : Addr) : Prop where
  kind : env.scope.kind = .function
  g : env.globals = mainGlobals
  b : env.builtins = builtinsNs
  ks : env.kindOf "super" = some .globalImplicit
  kc : env.kindOf "__class__" = some .free
  ka : env.kindOf "self" = some .local
  fu : env.func = some f
  fn : isFnB K f = true
  ar : firstArg (fdOf K f) = some "self"
  co : fileOf K env.code = some "/claim/cut.py"
  cl : env.cells.lookup ("__class__" : Str) = some 49
noncomputable def cellIn (K : Frag) (a : Addr) : Option Value := match K.lookup a with | some o => (match o.data with | .cell v => v | _ => none) | none => none
theorem cellIn_of {K : Frag} {h : Heap} {a : Addr} {v : Value} (X : K.In h) (e : cellIn K a = some v) : h.IsCell a (some v) := by
  unfold cellIn at e
  split at e
  · rename_i o ho
    split at e
    · rename_i u hu; subst e; exact ⟨o, X _ _ ho, hu⟩
    · cases e
  · cases e
theorem acc_cell (P : Params) : cellIn (K1 P) 49 = some (.ref 125) := by kernel_rfl
theorem gn_super {P : Params} {h : Heap} (p : PF (K1 P) h) : GN h (Str.ofString "super") (.type "super") := gn_boot p (by kernel_rfl) (by decide +kernel) (by decide +kernel)
section
variable {prog : Program} {w : World} {A : Around} {E : Value → Shared → Prop} {s : Shared} {x d b f : Addr} {xs : Array Value} {n : Nat} {k : Int} {env : Env} {body : List Stmt}
theorem super_base {p0 p1 : Pos} {attr : Str} {whole : Sem Value} {m : Str → Option Value} {Q : Value → Shared → Prop} (ph : PH prog) (pf : PF (KW w) s.heap) (S : SEnv (KW w) env f) (hns : s.heap.Ns env.locals m) (hm : m "self" = some (.ref x)) (hx : s.heap.get? x = some (accObj d xs n))
    (hat : (attr == ("__class__" : Str)) = false)
    (q : ∀ h', Sub s.heap h' → h'.get? s.heap.objs.size = some (superObj x) → Q (.ref s.heap.objs.size) { s with heap := h' }) :
    PySem.wpAt (model prog w) A (.func body env) (attributeBase (.Call (.Name "super" p0) [] [] p1) attr env whole) Q E s := by
  obtain ⟨⟨of, hof, hfd⟩, _⟩ := (fnAt_of pf.X pf.nl S.fn).1
  obtain ⟨ar, har, har2⟩ := Option.map_eq_some_iff.mp S.ar
  have hco := S.co
  unfold fileOf at hco
  split at hco
  · rename_i cc hcc
    split at hco
    · rename_i oc hoc
      split at hco
      · rename_i vs hvs
        split at hco
        · rename_i file tf rest hf0
          cases hco
          have hf : vs[2]? = some (.str "/claim/cut.py" tf) := by
            have := congrArg List.head? hf0
            rw [List.head?_drop, Array.getElem?_toList] at this
            exact this
          refine ks_wpAt_super_base S.ks S.kc hat S.fu hof hfd har hcc (pf.X _ _ hoc) hvs hf ph.file ph.top ?_
          obtain ⟨mg, mb, g1, g2, g3⟩ := gn_super pf
          have lg : ∀ {Q : Value → Shared → Prop}, Q (.type "super") s → wpAny (model prog w) A (loadGlobal env "super") Q E s := fun q => by
            rcases g3 with c | ⟨c1, c2⟩
            · exact Calls.loadGlobal_global (S.g ▸ g1) c q
            · exact Calls.loadGlobal_builtin (S.g ▸ g1) c1 (S.b ▸ g2) c2 q
          refine ks_loadName_global S.kind S.ks (lg ⟨rfl, ?_⟩)
          refine wpAny_loadName_free S.kind S.kc S.cl (cellIn_of pf.X (acc_cell w.params)) ?_
          rw [har2]
          refine wpAny_loadName_local S.kind S.ka hns hm ?_
          have h1 := acc_cd w.params
          obtain ⟨oD, hD, hDd⟩ : ∃ oD, s.heap.get? 125 = some oD ∧ oD.data = .cls (accCd (KW w)) := by
            unfold clsIn at h1
            split at h1
            · rename_i c dd cd' sl hq
              cases h1
              exact ⟨_, pf.X _ _ hq, rfl⟩
            · cases h1
          have hsub : Looks (model prog w) s.heap (isSubtype (.ref 125) (.ref 125)) true := looks_mroIn pf.X (by kernel_rfl)
          obtain ⟨hh, g, dr, t, os⟩ := s
          refine ks_wpAny_isType_cls hD hDd ⟨rfl, ?_⟩
          exact ks_wpAny_call_super hD hDd hx rfl (fun c e => by cases e) hsub fun h' e kk => q h' kk e
        · cases hco
      · cases hco
    · cases hco
  · cases hco
/-- super().name() -/
theorem super_call {name : Str} {id gid T bT : String} {p0 p1 apos pos : Pos} {m : Str → Option Value} {Q : Value → Shared → Prop} (ph : PH prog) (pf : PF (KW w) s.heap) (S : SEnv (KW w) env f) (hns : s.heap.Ns env.locals m) (hm : m "self" = some (.ref x)) (hx : s.heap.get? x = some (accObj d xs n))
    (hat : (name == ("__class__" : Str)) = false) (ho : ownIn (KW w) name (.type "list") = some (some (.builtin id))) (hT : typeOf (.builtin id) = pure (.type T)) (hg : typeLookup (.type T) "__get__" = pure (some (.builtin gid))) (hb : bT = "builtin_function_or_method" ∨ bT = "method-wrapper")
    (hc : ∀ (s : Shared) A E (Q : Value → Shared → Prop), (KW w).In s.heap → s.heap.get? x = some (accObj d xs n) → Q (.ref s.heap.objs.size) { s with heap := s.heap.push (boundObj bT id x) } → wpAny (model prog w) A (call (.builtin gid) [.builtin id, .ref x, .ref 125]) Q E s)
    (q : ∀ b s', Keeps s s' → s'.heap.get? b = some (boundObj bT id x) → wpAny (model prog w) A (call (.ref b) []) Q E s')
    (he : eval (.Call (.Attribute (.Call (.Name "super" p0) [] [] p1) name apos) [] [] pos) env = (do
      let ov ← attributeBase (.Call (.Name "super" p0) [] [] p1) name env (eval (.Call (.Name "super" p0) [] [] p1) env)
      standAt apos.atName
      let (f, first) ← holding [ov] (getMethod ov name (pure false))
      callWith pos f first (backTo pos (starEach [] env)) [])) :
    PySem.wpAt (model prog w) A (.func body env) (eval (.Call (.Attribute (.Call (.Name "super" p0) [] [] p1) name apos) [] [] pos) env) Q E s := by
  refine ks_wpAt_MethodCall (pl := pure false) (super_base ph pf S hns hm hx hat fun h' kk e => ?_) he
  refine gm_super (s := { s with heap := h' }) (pf.X.keeps kk) (kk _ _ hx) e hat ho hT hg hc fun tk => ?_
  have hbo : (h'.push (boundObj bT id x)).get? h'.objs.size = some (boundObj bT id x) := Heap.get?_push_size _ rfl
  exact cwb hb hbo (q _ _ ⟨_, tk, rfl, fun b o e => Heap.get?_push_of_some _ (kk _ _ e)⟩ hbo)
end
end
section
open PySem PySem.W PyProof.Rows
set_option Elab.async false
set_option maxRecDepth 100000
set_option linter.unusedVariables false
theorem fnB_pc (P : Params) : isFnB (K1 P) 122 = true := by kernel_rfl
theorem fnB_pop (P : Params) : isFnB (K1 P) 85 = true := by kernel_rfl
theorem fnB_init (P : Params) : isFnB (K1 P) 62 = true := by kernel_rfl
theorem fnB_push (P : Params) : isFnB (K1 P) 69 = true := by kernel_rfl
theorem fnB_popf (P : Params) : isFnB (K1 P) 77 = true := by kernel_rfl
section
variable {prog : Program} {w : World} {A : Around} {E : Value → Shared → Prop} {s : Shared} {x d b f : Addr} {xs : Array Value} {n : Nat} {k : Int} {env : Env} {body : List Stmt}
theorem enter_methL {fd : FuncData} {a : Addr} {vals : List Value} {binds : List (Str × Value)} {R : Result → Shared → Prop} {m : Nat} (rm : Rm (m + 1) A) (fa : FnAt s.heap a fd) (hbody : fd.body = .stmts body) (hbind : BindsTo s fd ⟨vals, []⟩ binds)
    (hcell : (fd.scope.names.all fun x => x.2 != .cell) = true) (hloc : ∀ x ∈ binds, fd.scope.names.lookup x.1 = some .local) (hco : fd.scope.isCoroutine = false) (hgen : fd.scope.isGenerator = false) (hk : fd.scope.kind = .function)
    (q : ∀ L h₁ tk E', s.heap.get? L = none → Rm m (A.deeper (callEnv fd L a)) → h₁.Ns L (fun x => binds.reverse.lookup x) → Sub s.heap h₁ →
      PySem.wpAt (model prog w) (A.deeper (callEnv fd L a)) (.func body (callEnv fd L a)) (execs body (callEnv fd L a)) (fun f s' => R (.ok (.ret (match f with | .ret v => v | _ => .none))) s') E' { s with heap := h₁, toks := tk }) :
    codeAny (model prog w) A (.call (.ref a) ⟨vals, []⟩) R s := by
  obtain ⟨o, ho, hd⟩ := fa.obj
  have rd : A.depth < recursionLimit := by have := rm.depth; show _ < 1000; lia
  refine ks_codeAny_call_defAt rd ho hd fa.nolimit fa.code hbody hbind (fun x hx => by have := List.all_eq_true.mp hcell x hx; simpa using this) hloc (fun h₀ hns hk₁ => ?_) hco hgen hk
  refine q s.heap.objs.size h₀ _ _ ?_ ⟨rm.hh, ?_, ?_⟩ hns hk₁
  · cases e : s.heap.get? s.heap.objs.size with
    | none => rfl
    | some o => exact absurd (Heap.lt_size e) (Nat.lt_irrefl _)
  · have := rm.depth; show A.depth + 1 + m < 1000; lia
  · have := rm.units; show A.units + 3 + 20 * m < 9900; lia
theorem enter_methB {fd : FuncData} {a : Addr} {vals : List Value} {binds : List (Str × Value)} {R : Result → Shared → Prop} {m : Nat} (rm : Rm (m + 1) A) (fa : FnAt s.heap a fd) (hbody : fd.body = .stmts body) (hbind : BindsTo s fd ⟨vals, []⟩ binds)
    (hcell : (fd.scope.names.all fun x => x.2 != .cell) = true) (hloc : ∀ x ∈ binds, fd.scope.names.lookup x.1 = some .local) (hco : fd.scope.isCoroutine = false) (hgen : fd.scope.isGenerator = false) (hk : fd.scope.kind = .function)
    (q : ∀ L h₁ tk E', Rm m (A.deeper (callEnv fd L a)) → h₁.Ns L (fun x => binds.reverse.lookup x) → Sub s.heap h₁ →
      PySem.wpAt (model prog w) (A.deeper (callEnv fd L a)) (.func body (callEnv fd L a)) (execs body (callEnv fd L a)) (fun f s' => R (.ok (.ret (match f with | .ret v => v | _ => .none))) s') E' { s with heap := h₁, toks := tk }) :
    codeAny (model prog w) A (.call (.ref a) ⟨vals, []⟩) R s :=
  enter_methL rm fa hbody hbind hcell hloc hco hgen hk fun L h₁ tk E' _ => q L h₁ tk E'
theorem enter_meth {fd : FuncData} {a : Addr} {vals : List Value} {binds : List (Str × Value)} {R : Result → Shared → Prop} {m : Nat} (rm : Rm (m + 1) A) (fa : FnAt s.heap a fd) (hbody : fd.body = .stmts body) (hbind : bindArgs fd ⟨vals, []⟩ = pure binds)
    (hcell : (fd.scope.names.all fun x => x.2 != .cell) = true) (hloc : ∀ x ∈ binds, fd.scope.names.lookup x.1 = some .local) (hco : fd.scope.isCoroutine = false) (hgen : fd.scope.isGenerator = false) (hk : fd.scope.kind = .function)
    (q : ∀ L h₁ tk E', Rm m (A.deeper (callEnv fd L a)) → h₁.Ns L (fun x => binds.reverse.lookup x) → Sub s.heap h₁ →
      PySem.wpAt (model prog w) (A.deeper (callEnv fd L a)) (.func body (callEnv fd L a)) (execs body (callEnv fd L a)) (fun f s' => R (.ok (.ret (match f with | .ret v => v | _ => .none))) s') E' { s with heap := h₁, toks := tk }) :
    codeAny (model prog w) A (.call (.ref a) ⟨vals, []⟩) R s :=
  enter_methB rm fa hbody (BindsTo.of_eq hbind) hcell hloc hco hgen hk q
theorem senv_of (P : Params) {f L : Addr} (hk : (fdOf (K1 P) f).scope.kind = .function) (hg : (fdOf (K1 P) f).globals = mainGlobals) (hb : (fdOf (K1 P) f).builtins = builtinsNs)
    (ks : (fdOf (K1 P) f).scope.names.lookup ("super" : Str) = some .globalImplicit) (kc : (fdOf (K1 P) f).scope.names.lookup ("__class__" : Str) = some .free) (ka : (fdOf (K1 P) f).scope.names.lookup ("self" : Str) = some .local)
    (fn : isFnB (K1 P) f = true) (ar : firstArg (fdOf (K1 P) f) = some "self") (co : fileOf (K1 P) (fdOf (K1 P) f).code = some "/claim/cut.py") (cl : (fdOf (K1 P) f).closure.lookup ("__class__" : Str) = some 49) : SEnv (K1 P) (callEnv (fdOf (K1 P) f) L f) f :=
  ⟨hk, hg, hb, ks, kc, ka, rfl, fn, ar, co, cl⟩
theorem mc_pc {R : Result → Shared → Prop} (ph : PH prog) (pf : PF (KW w) s.heap) (rm : Rm 3 A) (a : AccAt (KW w) s.heap x d xs n k) (q : ∀ v s', Keeps s s' → I xs.size s'.heap v → R (.ok (.ret v)) s') :
    codeAny (model prog w) A (.call (.ref 122) ⟨[.ref x], []⟩) R s := by
  obtain ⟨fa, hb⟩ := fnAt_of pf.X pf.nl (fnB_pc _)
  refine enter_meth (m := 2) (binds := [(Str.ofString "self", .ref x)]) rm fa hb (by kernel_rfl) (by kernel_rfl) ?_ (by kernel_rfl) (by kernel_rfl) (by kernel_rfl) fun L h₁ tk E' rm' hns sub => ?_
  · intro y hy
    simp only [List.mem_cons, List.not_mem_nil, or_false] at hy
    subst hy; kernel_rfl
  have S : SEnv (KW w) (callEnv (fdOf (KW w) 122) L 122) 122 := senv_of _ (by kernel_rfl) (by kernel_rfl) (by kernel_rfl) (by kernel_rfl) (by kernel_rfl) (by kernel_rfl) (by kernel_rfl) (by kernel_rfl) (by kernel_rfl) (by kernel_rfl)
  have a1 := a.sub sub
  have p1 := pf.sub sub
  refine ks_wpAt_execs_cons (ks_wpAt_Return_some ?_)
  refine super_call (s := { s with heap := h₁, toks := tk }) (T := "wrapper_descriptor") (bT := "method-wrapper") (id := "list.__len__") (gid := "wrapper_descriptor.__get__") ph p1 S hns rfl a1.at_ (by decide +kernel) (by kernel_rfl) ty_llen slot_wdg.lookup (.inr rfl)
    (fun s A E Q X hx q => wdg_any ty_llen (by decide +kernel) X hx q) (fun b s' k' hbo => ?_) (by kernel_rfl)
  have a2 := a1.sub (ksub k')
  refine call_bound (.inr rfl) hbo ck_len (by decide +kernel) entry_list_len ?_
  have ho := a2.at_
  show wpAny _ _ (do retInt (← seqSize x)) _ _ s'
  unfold seqSize
  refine wpAny_bind (wpAny_bind (wpAny_loadPart ho (wpAny_pure ?_)))
  refine wpAny_bind (wpAny_mkInt (wpAny_pure ?_))
  obtain ⟨h2, tk2, e2, k2⟩ := k'
  subst e2
  exact q _ _ ⟨h2, _, rfl, sub.trans k2⟩ ⟨_, rfl⟩
end
end
section
open PySem PySem.W PyProof.Rows
set_option Elab.async false
set_option maxRecDepth 100000
set_option linter.unusedVariables false
section
variable {prog : Program} {w : World} {A : Around} {E : Value → Shared → Prop} {s : Shared} {x d b f : Addr} {xs : Array Value} {n nn : Nat} {k : Int} {env : Env} {body : List Stmt} {Z Z0 : List Addr} {h : Heap}
noncomputable abbrev IsM (env : Env) (o : Expr) (name : Str) (apos : Pos) (args : List Expr) (pos : Pos) : Prop := eval (.Call (.Attribute o name apos) args [] pos) env = (do
  let ov ← eval o env
  standAt apos.atName
  let (f, first) ← holding [ov] (getMethod ov name (do return (← importBound o env).getD true))
  callWith pos f first (backTo pos (starEach args env)) [])
theorem wp_meth {o : Expr} {name : Str} {apos pos : Pos} {args : List Expr} {Q : Value → Shared → Prop} (he : IsM env o name apos args pos)
    (h : wpAny (model prog w) A (eval o env) (fun ov s₁ => wpAny (model prog w) A (getMethod ov name (do return (← importBound o env).getD true)) (fun fx s₂ => wpAny (model prog w) A (callWith pos fx.1 fx.2 (backTo pos (starEach args env)) []) Q E s₂) E s₁) E s) :
    wpAny (model prog w) A (eval (.Call (.Attribute o name apos) args [] pos) env) Q E s := by
  rw [he]
  refine wpAny_bind (wpAny_mono h (fun ov s₁ h₁ => wpAny_bind (wpAny_standAt (wpAny_bind (wpAny_holding (wpAny_mono h₁ (fun fx s₂ h₂ => ?_) fun _ _ x => x))))) fun _ _ x => x)
  exact h₂
/-- a method of an accumulator's own is found -/
theorem gm_acc {name : Str} {pl : Sem Bool} {Q : Value × List Value → Shared → Prop} (X : (KW w).In s.heap) (a : AccAt (KW w) s.heap x d xs nn k) (hf : findIn (KW w) (.ref 125) name = some (some (.ref f))) (ht : typeIn (KW w) (.ref f) = some (.type "function"))
    (hn : name ∈ ([Str.ofString "push", Str.ofString "pop", Str.ofString "pop_from", Str.ofString "part_count", Str.ofString "append"] : List Str)) (q : Q (.ref f, [.ref x]) s) : wpAny (model prog w) A (getMethod (.ref x) name pl) Q E s := by
  obtain ⟨od, I, hl⟩ := a.inst
  exact gm_K X I (acc_ga _) acc_can (acc_gn _) hf ht (.inl rfl) (fun o e => by cases e; exact hl name hn) q
theorem gm_app {pl : Sem Bool} {Q : Value × List Value → Shared → Prop} (X : (KW w).In s.heap) (a : AccAt (KW w) s.heap x d xs nn k) (q : Q (.builtin "list.append", [.ref x]) s) : wpAny (model prog w) A (getMethod (.ref x) "append" pl) Q E s := by
  obtain ⟨od, I, hl⟩ := a.inst
  exact gm_K X I (acc_ga _) acc_can (acc_gn _) (acc_app _) (acc_tapp _) (.inr (.inl rfl)) (fun o e => by cases e; exact hl _ (by simp)) q
theorem ev_pc {o : Expr} {apos pos : Pos} (ph : PH prog) (pf : PF (KW w) h) (hn : 3 ≤ n) (a : AccAt (KW w) h x d xs nn k) (he : IsM env o "part_count" apos [] pos) (ev : EV prog w n Z0 env h o (V (.ref x))) :
    EV prog w n Z env h (.Call (.Attribute o "part_count" apos) [] [] pos) (I xs.size) := fun A s E rm kk => by
  refine wp_meth he (wpAny_mono (ev A s E rm kk) (fun ov s₁ ⟨k₁, e⟩ => ?_) fun _ _ e => e)
  cases e
  have p1 := pf.sub (kk.trans (ksub k₁))
  have a1 := a.sub (kk.trans (ksub k₁))
  refine gm_acc p1.X a1 (acc_pc _) (acc_fn132 _) (by decide +kernel) ?_
  have ho := acc_fn132 w.params
  obtain ⟨⟨of, hof, hd⟩, _⟩ := (fnAt_of p1.X p1.nl (fnB_pc w.params)).1
  refine cw_fn (h := s₁.heap) hof hd A s₁ E _ pos [.ref x] [] (Sub.refl _) rfl (Calls.spliced_nil ⟨Sub.refl _, ?_⟩)
  refine wpAny_call (mc_pc ph p1 (rm.le hn) a1 fun v s' k' hv => ?_)
  exact ⟨ktr k₁ k', hv⟩
/-- what a method does to an accumulator -/
structure After (x : Addr) (s s' : Shared) : Prop where
  like : Like s s'
  keep : ∀ b o, b ≠ x → s.heap.get? b = some o → s'.heap.get? b = some o
theorem After.trans {a b c : Shared} (p : After x a b) (q : After x b c) : After x a c := ⟨p.like.trans q.like, fun b o hb e => q.keep b o hb (p.keep b o hb e)⟩
theorem After.turned (s : Shared) (f : Array Value → Array Value) (tk : Nat) : After x s { s with heap := turned s.heap x f, toks := tk } := ⟨⟨_, _, rfl⟩, fun b o hb e => turned_other f hb e⟩

theorem wp_test {e : Expr} {r : Bool} {Q : Bool → Shared → Prop} (tst : EVb prog w n env h e r) (rm : Rm n A) (kk : Sub h s.heap) (q : ∀ s', Keeps s s' → Q r s') : wpAny (model prog w) A (isTrue e env (eval e env)) Q E s :=
  wpAny_mono (tst A s E rm kk) (fun r' s' ⟨e, k'⟩ => by subst e; exact q s' k') fun _ _ e => e
theorem wp_ev {e : Expr} {S : Sp} {Q : Value → Shared → Prop} (ev : EV prog w n Z env h e S) (rm : Rm n A) (kk : Sub h s.heap) (q : ∀ v s', Keeps s s' → S (hid Z s'.heap) v → Q v s') : wpAny (model prog w) A (eval e env) Q E s :=
  wpAny_mono (ev A s E rm kk) (fun v s' ⟨k', hv⟩ => q v s' k' hv) fun _ _ e => e
/-- the head of pop -/
theorem pop_head {tk : Nat} {h₁ : Heap} {E' : Value → Shared → Prop} {rest : List Stmt} {Q : Flow → Shared → Prop} {body' : List Stmt} {p1 p2 p3 p4 p5 p6 : Pos} {kk0 : Nat} (ph : PH prog) (p1' : PF (KW w) h₁) (a1 : AccAt (KW w) h₁ x d xs nn k) (S : SEnv (KW w) env f) {m : Str → Option Value} (hns : h₁.Ns env.locals m) (hm : m "self" = some (.ref x)) (rm : Rm 4 A)
    (q : ∀ s', Keeps { s with heap := h₁, toks := tk } s' → PySem.wpAt (model prog w) A (.func body env) (execs (if xs.size = 0 then body' else []) env) (fun f s'' => match f with | .next => PySem.wpAt (model prog w) A (.func body env) (execs rest env) Q E' s'' | f => Q f s'') E' s')
    (he : IsM env (.Name (Str.ofString "self") p1) "part_count" p2 [] p3) :
    PySem.wpAt (model prog w) A (.func body env) (execs (.If (.Compare (.Call (.Attribute (.Name (Str.ofString "self") p1) "part_count" p2) [] [] p3) [.Eq] [.Constant (.int 0) kk0 p4] p5) body' [] p6 :: rest) env) Q E' { s with heap := h₁, toks := tk } := by
  have Lc : Loc env [] [(Str.ofString "self", V (.ref x))] h₁ := ⟨S.kind, fun y S' e => by
    rw [List.lookup_cons] at e
    split at e
    · rename_i hy
      cases e
      have : y = "self" := by simpa using hy
      subst this
      exact ⟨(flat_V _).mono, .ref x, .loc S.ka hns hm, rfl⟩
    · cases e⟩
  refine ks_wpAt_execs_cons (ks_wpAt_If (wpAt_of_wpAny ?_))
  refine wp_test (h := h₁) (n := 4) (evb_cmp (Z1 := []) (Z2 := []) (ev_pc (n := 4) ph p1' (by decide) a1 he (ev_var Lc lk_here (List.forall_mem_nil _) (by decide +kernel))) ev_int (mono_I _) (by kernel_rfl) fun A s E a c rm => cmp_eq A s [] [] E a c rm) rm (Sub.refl _) fun s₂ k₂ => ?_
  have := q s₂ k₂
  by_cases h0 : xs.size = 0
  · rw [if_pos (by rw [h0]; rfl)]
    rw [if_pos h0] at this
    exact this
  · rw [if_neg (by simp; exact fun q => h0 (by simpa using q))]
    rw [if_neg h0] at this
    exact this
theorem mc_pop {R : Result → Shared → Prop} {v : Value} (ph : PH prog) (pf : PF (KW w) s.heap) (rm : Rm 5 A) (a : AccAt (KW w) s.heap x d xs nn k) (hs : xs.size ≤ 1000) (hv : xs.toList.getLast? = some v)
    (q : ∀ s' n', After x s s' → AccAt (KW w) s'.heap x d (xs.eraseIdxIfInBounds (xs.size - 1)) n' k → R (.ok (.ret v)) s') :
    codeAny (model prog w) A (.call (.ref 85) ⟨[.ref x], []⟩) R s := by
  obtain ⟨fa, hb⟩ := fnAt_of pf.X pf.nl (fnB_pop _)
  refine enter_meth (m := 4) (binds := [(Str.ofString "self", .ref x)]) rm fa hb (by kernel_rfl) (by kernel_rfl) ?_ (by kernel_rfl) (by kernel_rfl) (by kernel_rfl) fun L h₁ tk E' rm' hns sub => ?_
  · intro y hy
    simp only [List.mem_cons, List.not_mem_nil, or_false] at hy
    subst hy; kernel_rfl
  have S : SEnv (KW w) (callEnv (fdOf (KW w) 85) L 85) 85 := senv_of _ (by kernel_rfl) (by kernel_rfl) (by kernel_rfl) (by kernel_rfl) (by kernel_rfl) (by kernel_rfl) (by kernel_rfl) (by kernel_rfl) (by kernel_rfl) (by kernel_rfl)
  have a1 := a.sub sub
  have p1 := pf.sub sub
  have h0 : ¬ xs.size = 0 := fun h0 => by
    have : xs.toList = [] := List.eq_nil_of_length_eq_zero (by simpa using h0)
    rw [this] at hv; cases hv
  refine pop_head ph p1 a1 S hns rfl rm' (fun s₂ k₂ => ?_) (by kernel_rfl)
  rw [if_neg h0]
  refine wpAt_of_wpAny (wpAny_execs_nil ?_)
  dsimp only
  have a2 := a1.sub (ksub k₂)
  have p2 := p1.sub (ksub k₂)
  refine ks_wpAt_execs_cons (ks_wpAt_Return_some ?_)
  refine super_call (T := "method_descriptor") (bT := "builtin_function_or_method") (id := "list.pop") (gid := "method_descriptor.__get__") ph p2 S (hns.keeps (ksub k₂)) rfl a2.at_ (by decide +kernel) (by kernel_rfl) ty_lpop slot_mdg.lookup (.inl rfl)
    (fun s A E Q X hx q => mdg_pop X hx q) (fun b s' k' hbo => ?_) (by kernel_rfl)
  have a3 := a2.sub (ksub k')
  have p3 := p2.sub (ksub k')
  refine call_bound (.inl rfl) hbo (ck_pop p3.X a3.at_) (by decide +kernel) F.entry_list_pop (pop_body a3.at_ hs hv ?_)
  obtain ⟨n', a4⟩ := a3.turn a3.ne (·.eraseIdxIfInBounds (xs.size - 1))
  have kk := ktr k₂ k'
  refine q _ n' ?_ a4
  refine After.trans (b := s') ?_ (After.turned s' _ s'.toks)
  obtain ⟨h3, tk3, e3, k3⟩ := kk
  subst e3
  exact ⟨⟨h3, tk3, rfl⟩, fun b o _ e => k3 b o (sub b o e)⟩
end
end
section
open PySem PySem.W PyProof.Rows
set_option Elab.async false
set_option maxRecDepth 100000
set_option linter.unusedVariables false
section
variable {prog : Program} {w : World} {A : Around} {E : Value → Shared → Prop} {s : Shared} {x d b f : Addr} {xs : Array Value} {n nn : Nat} {k : Int} {env : Env} {body : List Stmt} {Z Z0 : List Addr} {h : Heap}
noncomputable def Pr (S1 S2 : Sp) : Sp := fun h v => ∃ a x y, v = .ref a ∧ h.IsTuple a #[x, y] ∧ S1 h x ∧ S2 h y
theorem mono_Pr {S1 S2 : Sp} (m1 : Mono S1) (m2 : Mono S2) : Mono (Pr S1 S2) := fun h h' v k ⟨a, x, y, e, t, r, s⟩ => ⟨a, x, y, e, isTuple_sub k t, m1 h h' _ k r, m2 h h' _ k s⟩
theorem after_hid {s s' : Shared} (af : After x s s') (hx : x ∈ Z) : Sub (hid Z s.heap) (hid Z s'.heap) := hid_mono fun b o hb e => af.keep b o (fun q => hb (q ▸ hx)) e
/-- names of a method's frame -/
structure NameOk (env : Env) (Z : List Addr) (h : Heap) (m : Str → Option Value) (p : Str × Sp) : Prop where
  kind : env.kindOf p.1 = some .local
  val : ∃ v, m p.1 = some v ∧ p.2 (hid Z h) v
  mono : Mono p.2
theorem loc_of {m : Str → Option Value} (hk : env.scope.kind = .function) (hns : h.Ns env.locals m) (ρ : List (Str × Sp)) (hl : ∀ p ∈ ρ, NameOk env Z h m p) : Loc env Z ρ h := ⟨hk, fun y S e => by
  obtain ⟨h1, ⟨v, h2, h3⟩, h4⟩ := hl _ (lookup_mem e)
  exact ⟨h4, v, .loc h1 hns h2, h3⟩⟩
theorem wp_spl1 {e : Expr} {pos : Pos} {S : Sp} {Q : List Value → Shared → Prop} (ht : backTo pos (starEach [e] env) = [(false, eval e env)]) (x : EV prog w n Z env h e S) (m : Mono S) (rm : Rm n A) (kk : Sub h s.heap)
    (q : ∀ v s', Keeps s s' → S (hid Z s'.heap) v → Q [v] s') : wpAny (model prog w) A (spliced (backTo pos (starEach [e] env))) Q E s := by
  rw [ht]
  refine wpAny_mono (spl (.cons x m .nil) rm kk) (fun vs s' ⟨k', hv⟩ => ?_) fun _ _ e => e
  obtain ⟨y, rfl, hy⟩ := args1 hv
  exact q y s' k' hy
theorem wp_spl2 {e1 e2 : Expr} {pos : Pos} {S1 S2 : Sp} {Q : List Value → Shared → Prop} (ht : backTo pos (starEach [e1, e2] env) = [(false, eval e1 env), (false, eval e2 env)]) (x : EV prog w n Z env h e1 S1) (m : Mono S1) (x2 : EV prog w n Z env h e2 S2) (m2 : Mono S2) (rm : Rm n A) (kk : Sub h s.heap)
    (q : ∀ v u s', Keeps s s' → S1 (hid Z s'.heap) v → S2 (hid Z s'.heap) u → Q [v, u] s') : wpAny (model prog w) A (spliced (backTo pos (starEach [e1, e2] env))) Q E s := by
  rw [ht]
  refine wpAny_mono (spl (.cons x m (.cons x2 m2 .nil)) rm kk) (fun vs s' ⟨k', hv⟩ => ?_) fun _ _ e => e
  obtain ⟨y, z, rfl, hy, hz⟩ := args2 hv
  exact q y z s' k' hy hz
theorem mc_push {R : Result → Shared → Prop} {S1 S2 : Sp} {u v : Value} (pf : PF (KW w) s.heap) (rm : Rm 3 A) (a : AccAt (KW w) s.heap x d xs nn k) (hs : xs.size ≤ 999) (zl : Zl s.heap Z) (hx : x ∈ Z) (m1 : Mono S1) (m2 : Mono S2) (h1 : S1 (hid Z s.heap) u) (h2 : S2 (hid Z s.heap) v)
    (q : ∀ s' n' y, After x s s' → AccAt (KW w) s'.heap x d (xs.push y) n' k → Pr S1 S2 (hid Z s'.heap) y → R (.ok (.ret .none)) s') :
    codeAny (model prog w) A (.call (.ref 69) ⟨[.ref x, u, v], []⟩) R s := by
  obtain ⟨fa, hb⟩ := fnAt_of pf.X pf.nl (fnB_push _)
  refine enter_meth (m := 2) (binds := [(Str.ofString "self", .ref x), (Str.ofString "fws", u), (Str.ofString "string", v)]) rm fa hb (by kernel_rfl) (by kernel_rfl) ?_ (by kernel_rfl) (by kernel_rfl) (by kernel_rfl) fun L h₁ tk E' rm' hns sub => ?_
  · intro y hy
    simp only [List.mem_cons, List.not_mem_nil, or_false] at hy
    rcases hy with rfl | rfl | rfl <;> kernel_rfl
  have a1 := a.sub sub
  have p1 := pf.sub sub
  have hk : (callEnv (fdOf (KW w) 69) L 69).scope.kind = .function := by kernel_rfl
  have h1' : S1 (hid Z h₁) u := m1 _ _ _ (hid_sub_mono sub) h1
  have h2' : S2 (hid Z h₁) v := m2 _ _ _ (hid_sub_mono sub) h2
  have Lc : Loc (callEnv (fdOf (KW w) 69) L 69) Z [(Str.ofString "self", V (.ref x)), (Str.ofString "fws", S1), (Str.ofString "string", S2)] h₁ := loc_of hk hns _ (by
    intro p hp
    simp only [List.mem_cons, List.not_mem_nil, or_false] at hp
    rcases hp with rfl | rfl | rfl
    · exact ⟨by kernel_rfl, ⟨_, rfl, rfl⟩, (flat_V _).mono⟩
    · exact ⟨by kernel_rfl, ⟨_, rfl, h1'⟩, m1⟩
    · exact ⟨by kernel_rfl, ⟨_, rfl, h2'⟩, m2⟩)
  refine wpAt_of_wpAny (wpAny_execs_cons ?_)
  refine wpAny_Expr_any ?_ (by kernel_rfl) (by kernel_rfl)
  refine wp_meth (by kernel_rfl) ?_
  refine wp_ev (h := h₁) (n := 2) (Z := []) (S := V (.ref x)) (ev_var Lc lk_here (List.forall_mem_nil _) (by decide +kernel)) rm' (Sub.refl _) fun ov s₁ k₁ e => ?_
  cases e
  refine gm_app (p1.sub (ksub k₁)).X (a1.sub (ksub k₁)) ?_
  refine Calls.callWith_builtin (by kernel_rfl) (evalArgs_any (by kernel_rfl) ?_)
  have zl1 : Zl s₁.heap Z := zl_sub zl (sub.trans (ksub k₁))
  have L1 := Lc.sub (ksub k₁)
  refine wp_spl1 (n := 2) (Z := Z) (h := s₁.heap) (S := Pr S1 S2) (by kernel_rfl) (ev_pair (p := ((), ())) (R := fun _ => S1) (R' := fun _ => S2) zl1 (by kernel_rfl)
    (ev_var L1 (lk_skip (by decide +kernel) lk_here) (fun _ h => h) (by decide +kernel)) m1 (ev_var L1 (lk_skip (by decide +kernel) (lk_skip (by decide +kernel) lk_here)) (fun _ h => h) (by decide +kernel)) m2) (mono_Pr m1 m2) rm' (Sub.refl _) fun y s₂ k₂ hy => ?_
  have a2 := a1.sub ((ksub k₁).trans (ksub k₂))
  refine app_acc (p1.sub ((ksub k₁).trans (ksub k₂))).X a2 (by lia) ?_
  obtain ⟨n', a3⟩ := a2.turn a2.ne (·.push y)
  refine wpAny_execs_nil ?_
  have af : After x s { s₂ with heap := turned s₂.heap x (·.push y) } := by
    refine After.trans (b := s₂) ?_ (After.turned s₂ _ s₂.toks)
    obtain ⟨h3, tk3, e3, k3⟩ := ktr k₁ k₂
    subst e3
    exact ⟨⟨h3, tk3, rfl⟩, fun b o _ e => k3 b o (sub b o e)⟩
  exact q _ n' y af a3 (mono_Pr m1 m2 _ _ _ (after_hid (After.turned s₂ (·.push y) s₂.toks) hx) hy)
end
end
section
open PySem PySem.W PyProof.Rows
set_option Elab.async false
set_option maxRecDepth 100000
set_option linter.unusedVariables false
section
variable {prog : Program} {w : World} {A : Around} {E : Value → Shared → Prop} {s : Shared} {x d b f : Addr} {xs : Array Value} {n nn : Nat} {k : Int} {env : Env} {body : List Stmt} {Z Z0 Z1 : List Addr} {h : Heap}
theorem tail_acc {value slice : Expr} {i : Value} {Q : Value → Shared → Prop} (X : (KW w).In s.heap) (a : AccAt (KW w) s.heap x d xs nn k) (q : wpAny (model prog w) A (getItem (.ref x) i) Q E s) : wpAny (model prog w) A (subscriptTail value slice (.ref x) i) Q E s := by
  obtain ⟨od, I, _⟩ := a.inst
  unfold subscriptTail getitemInPython
  refine wpAny_bind (wpAny_bind (wpAny_bind (I.type.here ((looks_findIn X (acc_gi w.params)).here ?_))))
  dsimp only
  refine wpAny_pure ?_
  rw [subscripted_is]
  exact wpAny_bind (wpAny_operating (wpAny_mono q (fun r s₃ h₃ => wpAny_bind (wpAny_letTemporaryGo (wpAny_pure h₃))) fun _ _ x => x))
theorem ev_accsl {α : Type} {R : α → Sp} {items : List α} {o e : Expr} {pos p1 : Pos} {i : Int} (pf : PF (KW w) h) (zl : Zl h Z) (a : AccAt (KW w) h x d xs nn k) (hs : xs.size ≤ 1000) (ev : EV prog w n Z0 env h o (V (.ref x))) (ei : EV prog w n [] env h e (I i)) (mR : ∀ a, Mono (R a))
    (hp : Paired (fun p v => R p (hid Z h) v) items xs.toList) : EV prog w n Z env h (.Subscript o (.Slice (some e) none none p1) pos) (Ls R (cut items (some i) none)) := fun A s E rm kk => by
  have esl : EV prog w n [] env h (.Slice (some e) none none p1) (Sl (some i) none none) := ev_slice (List.forall_mem_nil _) (evp_some ei) evp_none evp_none
  refine Subscript_ (wpAny_mono (ev A s E rm kk) (fun ov s₁ ⟨k₁, e1⟩ => wpAny_mono (esl A s₁ E rm (kk.trans (ksub k₁))) (fun iv s₂ ⟨k₂, h₂⟩ => ?_) fun _ _ e => e) fun _ _ e => e)
  cases e1
  obtain ⟨sl, l, u, y, rfl, ⟨⟨oc, od, odt, osl⟩, hso, hc, hd⟩, pl, pu, py⟩ := h₂
  cases pu; cases py
  cases pl
  dsimp only at hc hd
  subst hc hd
  have kk2 := kk.trans ((ksub k₁).trans (ksub k₂))
  have a2 := a.sub kk2
  refine tail_acc (pf.sub kk2).X a2 (gi_acc (pf.sub kk2).X a2 hs hso ?_)
  have hsz : xs.size = items.length := by have := hp.length; simp at this; lia
  refine ⟨ktr (ktr k₁ k₂) (keeps_push s₂ _ s₂.toks), _, _, rfl, ⟨0, fresh_hid (zl_sub zl kk2) (Heap.get?_push_size _ rfl)⟩, ?_⟩
  rw [slicePick_plain, hsz]
  exact paired_imp (fun _ _ r => mR _ _ _ _ (hid_sub_mono (kk2.trans fun b o e => Heap.get?_push_of_some _ e)) r) (paired_take _ (paired_drop _ hp))

end
end
section
open PySem PySem.W PyProof.Rows
set_option Elab.async false
set_option maxRecDepth 100000
set_option linter.unusedVariables false
section
variable {prog : Program} {w : World} {A : Around} {E : Value → Shared → Prop} {s : Shared} {x d b f : Addr} {xs : Array Value} {n nn : Nat} {k : Int} {env : Env} {body : List Stmt} {Z Z0 Z1 : List Addr} {h h' : Heap}
theorem binds_peek {K : Frag} {fd : FuncData} {args : PySem.Args} {binds : List (Str × Value)} (X : K.In s.heap) (e : ∀ S : Setting, peek K S (bindArgs fd args) = some binds) : BindsTo s fd args binds := fun M A E Q hq => (Looks.of_peek (M := M) X (e _)).here hq
theorem max_end (a : Int) (m : Nat) : (max (max 0 (min a (m : Int))) (m : Int)).toNat = m := by lia
theorem clip_min (i : Int) (m : Nat) : (max 0 (min (if i < 0 then i + m else i) m) : Int).toNat = clipAt m i := rfl
theorem cut_from {α : Type} (items : List α) (i : Int) : cut items (some i) none = items.drop (clipAt items.length i) := by
  unfold cut
  exact List.take_of_length_le (by simp)
end
end
section
open PySem PySem.W PyProof.Rows
set_option Elab.async false
set_option maxRecDepth 100000
set_option linter.unusedVariables false
section
variable {prog : Program} {w : World} {A : Around} {E : Value → Shared → Prop} {s : Shared} {x d b f : Addr} {xs : Array Value} {n nn : Nat} {k : Int} {env : Env} {body : List Stmt} {Z Z0 Z1 : List Addr} {h h' : Heap}
theorem acc_ck (X : (KW w).In h) (v : Value) : Looks (model prog w) h (checkBuiltinCall "list.__new__" ⟨[.ref 125, v], []⟩) () := Looks.of_peek X (by kernel_rfl)
theorem acc_isType (X : (KW w).In h) : Looks (model prog w) h (isType (.ref 125)) true := Looks.of_peek X (by kernel_rfl)
theorem acc_obj (X : (KW w).In h) : ∃ oD, h.get? 125 = some oD ∧ oD.data = .cls (accCd (KW w)) := by
  have h1 := acc_cd w.params
  unfold clsIn at h1
  split at h1
  · rename_i c dd cd' sl hq
    cases h1
    exact ⟨_, X _ _ hq, rfl⟩
  · cases h1
theorem acc_hasDel (P : Params) : (accCd (K1 P)).hasDel = false := by kernel_rfl
theorem acc_new_code (X : (KW w).In s.heap) (v : Value) {R : Result → Shared → Prop}
    (q : R (.ok (.ret (.ref (s.heap.objs.size + 1)))) { s with heap := (s.heap.push emptyDict).push (accObj s.heap.objs.size #[] 0) }) :
    codeAny (model prog w) A (.call (.builtin "list.__new__") ⟨[.ref 125, v], []⟩) R s := by
  refine codeAny_of_tree ?_
  show wpAny _ A.in1 (do checkBuiltinCall "list.__new__" ⟨[.ref 125, v], []⟩; again (.builtin "list.__new__" ⟨[.ref 125, v], []⟩)) _ _ s
  refine wpAny_bind ((acc_ck X v).here (wpAny_pure ⟨plainId_quiet F.plain_list_new _, codeAny_builtin_stack F.entry_list_new rfl fun p st => ?_⟩))
  rw [Around.under_plainId F.plain_list_new _]
  have hown := owner_list_new
  have i1 := acc_isType (prog := prog) X
  have i2 := acc_subl (prog := prog) X
  have c2 : Looks (model prog w) s.heap (classData 125) (accCd (KW w)) := looks_clsIn X (acc_cd _)
  obtain ⟨hp, g, dr, tk, os⟩ := s
  dsimp only at i1 i2 c2
  simp only [hown]
  repeat lk
  obtain ⟨oD, hD, hDd⟩ := acc_obj X
  refine nd_load (Heap.get?_push_of_some _ (Heap.get?_push_of_some _ hD)) (nd_pure ?_)
  rw [hDd]
  refine wpAny_pure ?_
  rw [acc_hasDel]
  refine wpAny_pure (wpAny_pure ?_)
  show R (.ok (.ret (.ref (hp.push emptyDict).objs.size))) _
  rw [Heap.size_push]
  exact q
/-- _Accumulator(v), up to its __init__ -/
theorem acc_call (X : (KW w).In s.heap) (v : Value) {R : Result → Shared → Prop}
    (q : codeAny (model prog w) (A.under (.builtin "type.__call__" ⟨[.ref 125, v], []⟩)) (.call (.ref 62) ⟨[.ref (s.heap.objs.size + 1), v], []⟩) (InitBack (s.heap.objs.size + 1) R) { s with heap := (s.heap.push emptyDict).push (accObj s.heap.objs.size #[] 0) }) :
    codeAny (model prog w) A (.call (.ref 125) ⟨[v], []⟩) R s := by
  obtain ⟨⟨oc, od, oda, osl⟩, hD, hDd⟩ := acc_obj X
  dsimp only at hDd
  subst hDd
  have call : Looks (model prog w) s.heap (specialOf (.ref 125) "__call__") (some (.builtin "type.__call__")) := looks_specialIn X (by kernel_rfl)
  have typ : Looks (model prog w) s.heap (isInstance (.ref 125) (.type "type")) true := looks_instIn X (by kernel_rfl)
  have made : Looks (model prog w) s.heap (Bind.madeBy (.ref 125)) (some "list.__new__") := Looks.of_peek X (by kernel_rfl)
  have hm : Looks (model prog w) s.heap (mroOf (.ref 125)) (accCd (KW w)).mro := (looks_clsIn X (acc_cd w.params)).andThen .now
  rw [acc_mro] at hm
  obtain ⟨hh, g, dr, t, os⟩ := s
  dsimp only at call typ made hm hD
  refine codeAny_of_tree ?_
  show wpAny _ _ (callAny (.ref 125) _) _ _ _
  refine nd_load hD ?_
  show wpAny _ _ (callAny.viaDunder (.ref 125) _) _ _ _
  unfold callAny.viaDunder
  refine wpAny_bind (call.at ?_)
  dsimp only
  rw [tc_bind]
  refine wpAny_bind (wpAny_pure (wpAny_bind (wpAny_pure ?_)))
  refine wpAny_pure (a := Fin.again (.call (.builtin "type.__call__") ⟨[.ref 125, v], []⟩)) (And.intro rfl ?_)
  refine codeAny_call_builtin_at (Code.quiet_builtin _ (by decide +kernel)) entry_typeCall (check_slot tc_kind tc_split typ (tc_args _ _ _) ?_)
  unfold Builtin.«type.__call__»
  repeat (first | with_reducible refine wpAny_call ?_ | lk)
  refine acc_new_code X v ?_
  have k : ∀ b o, hh.get? b = some o → ((hh.push emptyDict).push (accObj hh.objs.size #[] 0)).get? b = some o := fun b o e => Heap.get?_push_of_some _ (Heap.get?_push_of_some _ e)
  have hx : ((hh.push emptyDict).push (accObj hh.objs.size #[] 0)).get? (hh.objs.size + 1) = some (accObj hh.objs.size #[] 0) := by
    have e : ((hh.push emptyDict).push (accObj hh.objs.size #[] 0)).get? (hh.push emptyDict).objs.size = some (accObj hh.objs.size #[] 0) := Heap.get?_push_size _ rfl
    rwa [Heap.size_push] at e
  have t1 : Looks (model prog w) ((hh.push emptyDict).push (accObj hh.objs.size #[] 0)) (typeOf (.ref (hh.objs.size + 1))) (.ref 125) := (Looks.ld hx).andThen .now
  have s1 : Looks (model prog w) ((hh.push emptyDict).push (accObj hh.objs.size #[] 0)) (isSubtype (.ref 125) (.ref 125)) true := looks_mroIn (X.keeps k) (by kernel_rfl)
  have i1 : Looks (model prog w) ((hh.push emptyDict).push (accObj hh.objs.size #[] 0)) (typeLookup (.ref 125) "__init__") (some (.ref 62)) := looks_findIn (X.keeps k) (acc_init w.params)
  have b1 : Looks (model prog w) ((hh.push emptyDict).push (accObj hh.objs.size #[] 0)) (bindSpecial (.ref 62) (.ref (hh.objs.size + 1))) (.ref 62, [.ref (hh.objs.size + 1)]) := bind_fn (X.keeps k) _ (acc_fn72 w.params)
  unfold isInstance callSpecial? specialOf
  repeat (first | with_reducible refine wpAny_call ?_ | lk)
  refine codeAny_mono q fun r s' z => ?_
  rcases r with e | (v | _ | _ | _) <;> first | exact z | exact z.elim | skip
  obtain ⟨rfl, z⟩ := z
  exact wpAny_pure (wpAny_pure z)
end
end
section
open PySem PySem.W PyProof.Rows Builtin.ObjectAttr
set_option Elab.async false
set_option maxRecDepth 100000
set_option linter.unusedVariables false
theorem refuse_list (self : Value) : refuseLoop self "__setattr__" [.type "list", .type "object"] = pure () := by
  have h1 : classOwn (.type "list") ("__setattr__" : Str) = pure none := by
    show (pure (builtinOwn "list" _) : Sem (Option Value)) = _
    rw [builtinOwn_eq_fast]; kernel_rfl
  have h2 := PySem.F.store_object.passes self
  have h3 : refuseLoop self "__setattr__" [.type "list", .type "object"] = refuseLoop self "__setattr__" [.type "object"] := by
    unfold refuseLoop
    rw [List.forIn_cons]
    dsimp only
    rw [h1]
    rfl
  rw [h3]; exact h2
section
variable {prog : Program} {w : World} {A : Around} {E : Value → Shared → Prop} {s : Shared} {x d b f : Addr} {xs : Array Value} {n nn : Nat} {k : Int} {env : Env} {body : List Stmt} {Z Z0 Z1 : List Addr} {h h' : Heap}
theorem putE (name : Str) (H : Int) (key v : Value) : Obj.putName name H key v emptyDict = ⟨.type "dict", none, .dict #[⟨H, key, v⟩] 1, #[]⟩ := rfl
theorem acc_taker (P : Params) : findIn (K1 P) (.ref 125) "_initial_size" = some none := by kernel_rfl
theorem osa_acc {R : Result → Shared → Prop} {v : Value} {tk : Tok} (X : (KW w).In s.heap) (hx : s.heap.get? x = some (accObj d xs nn)) (hd : s.heap.get? d = some emptyDict)
    (q : R (.ok (.ret .none)) { s with heap := s.heap.update d (Obj.putName "_initial_size" (PyData.keyHash w.params "_initial_size") (.str "_initial_size" s.toks) v), toks := s.toks + 1 }) :
    codeAny (model prog w) A (.call (.builtin "object.__setattr__") ⟨[.ref x, .str "_initial_size" tk, v], []⟩) R s := by
  have SF := PySem.F.store_object
  have tX : Looks (model prog w) s.heap (typeOf (.ref x)) (.ref 125) := (Looks.ld hx).andThen .now
  have sub : Looks (model prog w) s.heap (isInstance (.ref x) (.type "object")) true := tX.andThen (looks_mroIn X (by kernel_rfl))
  refine codeAny_call_builtin SF.slot.plain SF.entry (@check_slot (model prog w) _ _ s "object.__setattr__" "object" "__setattr__" (.ref x) [.str "_initial_size" tk, v] [] _ SF.kind SF.split sub (SF.args (.ref x) (.str "_initial_size" tk) v) ?_)
  have hm : Looks (model prog w) s.heap (mroOf (.ref 125)) (accCd (KW w)).mro := (looks_clsIn X (acc_cd w.params)).andThen .now
  rw [acc_mro] at hm
  rw [osa_eq, refuse_eq]
  refine wpAny_bind (wpAny_bind (tX.here (wpAny_bind (hm.here ?_))))
  rw [refuseLoop_ref, refuse_list]
  refine wpAny_pure (wpAny_bind (tX.here (wpAny_bind ((looks_findIn X (acc_taker w.params)).here (wpAny_bind ?_)))))
  refine wpAny_pure ?_
  refine wpAny_bind (wpAny_pure (wpAny_bind (wpAny_bind (wpAny_loadPart hx (wpAny_bind ((looks_clsIn X (acc_cd w.params)).here ?_))))))
  rw [acc_hasDict]
  refine wpAny_pure (a := some d) (wpAny_bind (wpAny_pure (wpAny_bind ?_)))
  unfold nsSet
  refine wpAny_bind (wpAny_bind (wpAny_askSetting (wpAny_pure (wpAny_bind (wpAny_mkText (wpAny_bind (wpAny_loadPart hd ?_)))))))
  have c : aRefKeyMayBeTheName (Str.ofString "_initial_size") (#[] : Array DictEntry) = false := by rw [aRefKeyMayBeTheName_at]; simp
  dsimp only
  rw [c]
  refine wpAny_updatePart hd ?_
  refine wpAny_bind (wpAny_lookBehind (Heap.get?_update_self _ hd (by rw [putE]; rfl)) ?_ ?_)
  · rw [putE]; exact pastItsLine_dict (by rw [sizeLine_eq]; exact Nat.le_of_ble_eq_true rfl)
  · exact wpAny_pure q
theorem sizeD_put {hp : Heap} {H : Int} {tk t : Tok} {i : Int} (hd : hp.get? d = some emptyDict) : SizeD d i (hp.update d (Obj.putName "_initial_size" H (.str "_initial_size" tk) (.int i t))) := by
  refine ⟨_, .int i t, Heap.get?_update_self _ hd (by rw [putE]; rfl), ?_, ⟨t, rfl⟩, ?_, H, tk, putE _ _ _ _⟩
  · rw [putE]; rfl
  · intro name hn
    rw [putE]
    simp only [List.mem_cons, List.not_mem_nil, or_false] at hn
    rcases hn with rfl | rfl | rfl | rfl | rfl <;> rfl
theorem acc_initsl (P : Params) : ownIn (K1 P) "__init__" (.type "list") = some (some (.builtin "list.__init__")) := by kernel_rfl
theorem mc_init {R : Result → Shared → Prop} {i : Int} {t : Tok} {H : Heap} (ph : PH prog) (pf0 : PF (KW w) H) (sH : Sub H s.heap) (hHx : H.get? x = none) (hHd : H.get? d = none) (rm : Rm 3 A) (hx : s.heap.get? x = some (accObj d #[] 0)) (hd : s.heap.get? d = some emptyDict)
    (q : ∀ s', Like s s' → (∀ b o, b ≠ x → b ≠ d → s.heap.get? b = some o → s'.heap.get? b = some o) → (∃ n', AccAt (KW w) s'.heap x d #[] n' i) → R (.ok (.ret .none)) s') :
    codeAny (model prog w) A (.call (.ref 62) ⟨[.ref x, .int i t], []⟩) R s := by
  have pf := pf0.sub sH
  obtain ⟨fa, hb⟩ := fnAt_of pf.X pf.nl (fnB_init _)
  refine enter_methL (m := 2) (binds := [(Str.ofString "self", .ref x), (Str.ofString "initial_size", .int i t)]) rm fa hb (binds_peek pf.X (fun _ => by kernel_rfl)) (by kernel_rfl) ?_ (by kernel_rfl) (by kernel_rfl) (by kernel_rfl) fun L h₁ tk E' hLn rm' hns sub => ?_
  · intro y hy
    simp only [List.mem_cons, List.not_mem_nil, or_false] at hy
    rcases hy with rfl | rfl <;> kernel_rfl
  have S : SEnv (KW w) (callEnv (fdOf (KW w) 62) L 62) 62 := senv_of _ (by kernel_rfl) (by kernel_rfl) (by kernel_rfl) (by kernel_rfl) (by kernel_rfl) (by kernel_rfl) (by kernel_rfl) (by kernel_rfl) (by kernel_rfl) (by kernel_rfl)
  have p1 := pf.sub sub
  have Lc : Loc (callEnv (fdOf (KW w) 62) L 62) [] [(Str.ofString "self", V (.ref x)), (Str.ofString "initial_size", V (.int i t))] h₁ := loc_of S.kind hns _ (by
    intro p hp
    simp only [List.mem_cons, List.not_mem_nil, or_false] at hp
    rcases hp with rfl | rfl
    · exact ⟨by kernel_rfl, ⟨_, rfl, rfl⟩, (flat_V _).mono⟩
    · exact ⟨by kernel_rfl, ⟨_, rfl, rfl⟩, (flat_V _).mono⟩)
  -- self._initial_size = initial_size
  refine ks_wpAt_execs_cons (ks_wpAt_Assign_Attr (wpAt_of_wpAny ?_) (by kernel_rfl))
  refine wp_ev (h := h₁) (n := 2) (Z := []) (S := V (.int i t)) (ev_var Lc (lk_skip (by decide +kernel) lk_here) (List.forall_mem_nil _) (by decide +kernel)) rm' (Sub.refl _) fun v s₁ k₁ e => ?_
  cases e
  refine wp_ev (h := h₁) (n := 2) (Z := []) (S := V (.ref x)) (ev_var Lc lk_here (List.forall_mem_nil _) (by decide +kernel)) rm' (ksub k₁) fun v s₂ k₂ e => ?_
  cases e
  have kk : Sub s.heap s₂.heap := sub.trans ((ksub k₁).trans (ksub k₂))
  have p2 := pf.sub kk
  have hx2 := kk _ _ hx
  have hd2 := kk _ _ hd
  have I2 : InstAt s₂.heap x (accObj d #[] 0) 125 (some emptyDict) := ⟨hx2, rfl, rfl, hd2⟩
  refine set_plain p2.X I2 (acc_sa _) (osa_acc (s := { s₂ with toks := s₂.toks + 1 }) p2.X hx2 hd2 ?_)
  dsimp only
  have hne : d ≠ x := by rintro rfl; rw [hx] at hd; cases hd
  have hx3 : (s₂.heap.update d (Obj.putName "_initial_size" (PyData.keyHash w.params "_initial_size") (.str "_initial_size" (s₂.toks + 1)) (.int i t))).get? x = some (accObj d #[] 0) := (Heap.get?_update_other _ _ hne).trans hx2
  have ko : ∀ b o, b ≠ d → s₂.heap.get? b = some o → (s₂.heap.update d (Obj.putName "_initial_size" (PyData.keyHash w.params "_initial_size") (.str "_initial_size" (s₂.toks + 1)) (.int i t))).get? b = some o := fun b o hb e => (Heap.get?_update_other _ _ (Ne.symm hb)).trans e
  generalize hH3 : s₂.heap.update d (Obj.putName "_initial_size" (PyData.keyHash w.params "_initial_size") (.str "_initial_size" (s₂.toks + 1)) (.int i t)) = H3 at hx3 ko
  have hsz : SizeD d i H3 := by rw [← hH3]; exact sizeD_put hd2
  have p3 : PF (KW w) H3 := pf0.sub fun b o e => ko b o (fun q => by rw [q, hHd] at e; cases e) (kk _ _ (sH _ _ e))
  have hLd : L ≠ d := by rintro rfl; rw [hd] at hLn; cases hLn
  have hns3 : H3.Ns (callEnv (fdOf (KW w) 62) L 62).locals (fun y => ([(Str.ofString "self", .ref x), (Str.ofString "initial_size", .int i t)] : List (Str × Value)).reverse.lookup y) := (hns.keeps ((ksub k₁).trans (ksub k₂))).at' fun o e => ko _ o hLd e
  have k12 := ktr k₁ k₂
  obtain ⟨h2', tk2', e2', kk2⟩ := k12
  subst e2'
  dsimp only at ko hx2 hd2 kk ⊢
  refine ks_wpAt_execs_cons (ks_wpAt_Expr_any ?_ (by kernel_rfl) (by kernel_rfl))
  refine super_call (T := "wrapper_descriptor") (bT := "method-wrapper") (id := "list.__init__") (gid := "wrapper_descriptor.__get__") ph (s := { s with heap := H3, toks := tk2' + 1 + 1 }) p3 S hns3 rfl hx3 (by decide +kernel) (acc_initsl _) ty_linit slot_wdg.lookup (.inr rfl)
    (fun s A E Q X hx q => wdg_any ty_linit (by decide +kernel) X hx q) (fun b s' k' hbo => ?_) (by kernel_rfl)
  refine call_bound (.inr rfl) hbo ck_init (by decide +kernel) F.entry_list_init ?_
  have hx4 := ksub k' _ _ hx3
  show wpAny _ _ (do let old ← Builtin.List.listItems (.ref x); Builtin.List.listUpdate (.ref x) (fun _ => #[]); letGo old.toList.reverse; ret .none) _ _ s'
  refine wpAny_bind ?_
  unfold Builtin.List.listItems
  refine wpAny_bind (wpAny_seqItems hx4 rfl (wpAny_pure ?_))
  refine wpAny_bind (wpAny_updateSeq hx4 rfl ?_ (by simp) (by simp))
  refine wpAny_bind (wpAny_letGo (wpAny_pure ?_))
  refine wpAt_of_wpAny (wpAny_execs_nil ?_)
  dsimp only
  have a4 : AccAt (KW w) s'.heap x d #[] 0 i := ⟨hx4, let ⟨od, v, e, r⟩ := hsz; ⟨od, v, ksub k' _ _ e, r⟩⟩
  obtain ⟨n', a5⟩ := a4.turn a4.ne (fun _ => #[])
  refine q _ ?_ (fun b o hb1 hb2 e => turned_other _ hb1 (ksub k' _ _ (ko _ _ hb2 (kk _ _ e)))) ⟨n', a5⟩
  obtain ⟨h5, tk5, e5, _⟩ := k'
  subst e5
  exact ⟨_, _, rfl⟩
end
end
section
open PySem PySem.W PyProof.Rows
set_option Elab.async false
set_option maxRecDepth 100000
set_option linter.unusedVariables false
theorem gn_acc {P : Params} {h : Heap} (p : PF (K1 P) h) : GN h (Str.ofString "_Accumulator") (.ref 125) := gn_own p (by kernel_rfl)
section
variable {prog : Program} {w : World} {A : Around} {E : Value → Shared → Prop} {s : Shared} {x d b f : Addr} {xs : Array Value} {n nn : Nat} {k : Int} {env : Env} {body : List Stmt} {X Z Z0 Z1 : List Addr} {h h' H : Heap} {μ : List (Addr × MSp)} {ρ : List (Str × Sp)}
theorem cw_acc (p : PF (KW w) h) : CW prog w h (.ref 125) := fun A s E Q pos first ts kk hp q => by
  unfold callWith
  refine wpAny_bind (wpAny_holding (evalArgs_any hp (wpAny_mono q (fun vs s₁ ⟨k₁, q₁⟩ => ?_) fun _ _ e => e)))
  refine wpAny_bind (wpAny_standAt ?_)
  simp only [hp, List.any_nil, Bool.or_false]
  have p1 := p.sub (kk.trans k₁)
  obtain ⟨⟨oc, od, oda, osl⟩, hD, hDd⟩ := acc_obj p1.X
  dsimp only at hDd
  subst hDd
  have call : Looks (model prog w) s₁.heap (specialOf (.ref 125) "__call__") (some (.builtin "type.__call__")) := looks_specialIn p1.X (by kernel_rfl)
  refine wpAny_bind (m := keeperOf (.ref 125)) ?_
  unfold keeperOf
  refine wpAny_bind (wpAny_load hD ?_)
  dsimp only
  refine wpAny_bind (call.here ?_)
  refine wpAny_pure ?_
  exact wpAny_bind (wpAny_mono q₁ (fun r s₂ hr => wpAny_bind (wpAny_holding (wpAny_point (wpAny_pure hr)))) fun _ _ x => x)
theorem call_acc {i : Int} {t : Tok} {Q : Value → Shared → Prop} (ph : PH prog) (pf : PF (KW w) s.heap) (rm : Rm 5 A)
    (q : ∀ x d s' n', Keeps s s' → s.heap.get? x = none → AccAt (KW w) s'.heap x d #[] n' i → s.heap.get? d = none → Q (.ref x) s') : wpAny (model prog w) A (call (.ref 125) [.int i t]) Q E s := by
  refine wpAny_call (acc_call pf.X (.int i t) ?_)
  have none_of : ∀ b, s.heap.objs.size ≤ b → s.heap.get? b = none := fun b hb => by
    cases e : s.heap.get? b with
    | none => rfl
    | some o => exact absurd (Heap.lt_size e) (Nat.not_lt.mpr hb)
  have k2 : Sub s.heap ((s.heap.push emptyDict).push (accObj s.heap.objs.size #[] 0)) := fun b o e => Heap.get?_push_of_some _ (Heap.get?_push_of_some _ e)
  have hx : ((s.heap.push emptyDict).push (accObj s.heap.objs.size #[] 0)).get? (s.heap.objs.size + 1) = some (accObj s.heap.objs.size #[] 0) := by
    have e : ((s.heap.push emptyDict).push (accObj s.heap.objs.size #[] 0)).get? (s.heap.push emptyDict).objs.size = some (accObj s.heap.objs.size #[] 0) := Heap.get?_push_size _ rfl
    rwa [Heap.size_push] at e
  have hd : ((s.heap.push emptyDict).push (accObj s.heap.objs.size #[] 0)).get? s.heap.objs.size = some emptyDict := Heap.get?_push_of_some _ (Heap.get?_push_size _ rfl)
  have hx0 := none_of (s.heap.objs.size + 1) (Nat.le_succ _)
  have hd0 := none_of s.heap.objs.size (Nat.le_refl _)
  refine mc_init (H := s.heap) ph pf k2 hx0 hd0 ?_ hx hd fun s' l' kk ⟨n', a⟩ => ⟨rfl, ?_⟩
  · refine ⟨rm.hh, ?_, ?_⟩
    · have := rm.depth; have e : (A.under (.builtin "type.__call__" ⟨[.ref 125, .int i t], []⟩)).depth = A.depth + 1 := rfl; rw [e]; lia
    · have := rm.units; have e : (A.under (.builtin "type.__call__" ⟨[.ref 125, .int i t], []⟩)).units = A.units + 1 := rfl; rw [e]; lia
  · refine q _ _ s' n' ?_ hx0 a hd0
    obtain ⟨h', tk', e'⟩ := l'
    refine ⟨h', tk', e', fun b o e => ?_⟩
    have := kk b o (fun q => by rw [q, hx0] at e; cases e) (fun q => by rw [q, hd0] at e; cases e) (k2 _ _ e)
    rw [e'] at this; exact this
end
end
section
open PySem PySem.W PyProof.Rows
set_option Elab.async false
set_option maxRecDepth 100000
set_option linter.unusedVariables false
section
variable {prog : Program} {w : World} {A : Around} {E : Value → Shared → Prop} {s : Shared} {x d b f : Addr} {xs : Array Value} {n nn : Nat} {k : Int} {env : Env} {body : List Stmt} {X Z Z0 Z1 : List Addr} {h h' H : Heap} {μ : List (Addr × MSp)} {ρ : List (Str × Sp)} {P P' : MSp}
theorem Fm.turn {o' : Obj} (F : Fm H env X Z ((x, P) :: μ) ρ h) (kk : ∀ b o, b ≠ x → h.get? b = some o → h'.get? b = some o) (mP : MonoM P') (e : h'.get? x = some o') (hP : P' (hid Z h') o') : Fm H env X Z ((x, P') :: μ) ρ h' :=
  let ⟨hxX, hap, hnm, _⟩ := F.head
  (F.leave.other hxX hap hnm kk ⟨o', e⟩).take hxX hap hnm mP e hP
theorem Fm.xZ (F : Fm H env X Z ((x, P) :: μ) ρ h) : x ∈ Z := F.xz _ F.head.1
end
end
section
open PySem PySem.W PyProof.Rows
set_option Elab.async false
set_option maxRecDepth 100000
set_option linter.unusedVariables false
section
variable {prog : Program} {w : World} {H : Heap} {env : Env} {X Z Z0 : List Addr} {μ μ' : List (Addr × MSp)} {ρ : List (Str × Sp)} {h h' : Heap} {A : Around} {E : Value → Shared → Prop} {s : Shared} {n : Nat} {r : Addr}

/-- an owned list -/
noncomputable def OL {α : Type} (R : α → Sp) (xs : List α) : MSp := fun h o => ∃ vs k, o = { cls := .type "list", data := .seq vs k } ∧ Paired (fun x v => R x h v) xs vs.toList
theorem mono_OL {α : Type} {R : α → Sp} {xs : List α} (mR : ∀ a, Mono (R a)) : MonoM (OL R xs) := fun h h' o k ⟨vs, n, e, p⟩ => ⟨vs, n, e, paired_imp (fun a v q => mR a _ _ _ k q) p⟩
theorem Fm.perm (F : Fm H env X Z μ ρ h) (p : μ.Perm μ') : Fm H env X Z μ' ρ h :=
  { F with own := fun q hq => F.own q (p.mem_iff.mpr hq), nodup := (p.map (·.1)).nodup_iff.mp F.nodup }
theorem Fm.own_ls {α : Type} {R : α → Sp} {xs : List α} (F : Fm H env X Z ((r, OL R xs) :: μ) ρ h) {Zr : List Addr} (mR : ∀ a, Mono (R a)) (hr : r ∉ Zr) (hz : ∀ z ∈ Zr, z ∈ Z) : Ls R xs (hid Zr h) (.ref r) := by
  obtain ⟨_, _, _, o, e, vs, k, rfl, hp⟩ := F.head
  exact ⟨r, vs, rfl, ⟨k, hid_get e hr⟩, paired_imp (fun a v q => mR a _ _ _ (hid_less hz) q) hp⟩
/-- an owned list is read -/
theorem ev_own {α : Type} {R : α → Sp} {xs : List α} {y : Str} {pos : Pos} (F : Fm H env X Z ((r, OL R xs) :: μ) ρ h) (mR : ∀ a, Mono (R a)) (e : ρ.lookup y = some (V (.ref r))) (d : (y == ("__debug__" : Str)) = false) {Zr : List Addr} (hr : r ∉ Zr) (hz : ∀ z ∈ Zr, z ∈ Z) :
    EV prog w n Zr env h (.Name y pos) (Ls R xs) := fun A s E rm k => by
  refine wpAny_mono (ev_var (w := w) (prog := prog) (n := n) (Z0 := []) (pos := pos) F.loc e (by simp) d A s E rm k) (fun v s' ⟨k', hv⟩ => ⟨k', ?_⟩) fun _ _ e => e
  have hv' : v = .ref r := hv
  subst hv'
  exact (F.keep (k.trans (ksub k'))).own_ls mR hr hz
/-- an owned list is given to its name -/
theorem Fm.give {α : Type} {R : α → Sp} {xs : List α} {y : Str} (F : Fm H env (r :: X) (r :: Z) ((r, OL R xs) :: μ) ρ h) (mR : ∀ a, Mono (R a)) (e : ρ.lookup y = some (V (.ref r))) (hr : r ∉ Z) (hx : ∀ z ∈ X, z ∈ Z) : Fm H env X Z μ ((y, Ls R xs) :: ρ) h := by
  have hl := F.own_ls (Zr := Z) mR hr fun z m => .tail _ m
  obtain ⟨_, ap, nm, _⟩ := F.head
  have F' := F.leave.drop1 ap nm hx
  refine { F' with vars := fun x S q => ?_ }
  rw [List.lookup_cons] at q
  cases hb : x == y with
  | true =>
    rw [hb] at q; cases q
    rw [beq_iff_eq.mp hb]
    obtain ⟨_, f, v, a, b⟩ := F'.vars y _ e
    have hv : v = .ref r := b
    subst hv
    exact ⟨mono_Ls mR _, f, _, a, hl⟩
  | false => rw [hb] at q; exact F'.vars x S q

/-- the addresses in use -/
noncomputable def usedIn (h : Heap) : List Addr := (List.range h.objs.size).filter fun a => (h.get? a).isSome
theorem usedIn_zl (h : Heap) : Zl h (usedIn h) := fun z m => by
  unfold usedIn at m
  exact Option.isSome_iff_exists.mp (List.mem_filter.mp m).2
theorem not_used {h : Heap} {a : Addr} (m : a ∉ usedIn h) : h.get? a = none := by
  cases e : h.get? a with
  | none => rfl
  | some o => exact absurd (List.mem_filter.mpr ⟨List.mem_range.mpr (Heap.lt_size e), by rw [e]; rfl⟩) m

/-- y = a new list, of things that lie nowhere: it is owned -/
theorem bl_own {α : Type} {R : α → Sp} {xs : List α} {y : Str} {py pos : Pos} {e : Expr} {rest : List Stmt} {Q : Flow → Shared → Prop} (F : Fm H env X Z μ ρ s.heap) (rm : Rm n A)
    (ev : ∀ Z', Zl s.heap Z' → EV prog w n Z' env s.heap e (Ls R xs)) (mR : ∀ a, Mono (R a)) (fl : ∀ a h h' v, a ∈ xs → R a h v → R a h' v) (hy : Stores env y) (sw : swapsWith e (some (.Name y py)) pos.line env = pure false)
    (q : ∀ r s', r ∉ Z → Like s s' → Fm H env (r :: X) (r :: Z) ((r, OL R xs) :: μ) ((y, V (.ref r)) :: ρ) s'.heap → wpAny (model prog w) A (execs rest env) Q E s') :
    wpAny (model prog w) A (execs (.Assign [.Name y py] e pos :: rest) env) Q E s := by
  refine wpAny_execs_cons (wpAny_Assign_Name ?_ sw)
  refine wpAny_mono (ev (usedIn s.heap) (usedIn_zl _) A s E rm (Sub.refl _)) (fun v s₁ ⟨k₁, r, vs, e1, ⟨kk, e2⟩, hp⟩ => ?_) fun _ _ e => e
  subst e1
  have hr : r ∉ usedIn s.heap := fun m => by rw [hid_none m] at e2; cases e2
  have hr0 := not_used hr
  have e3 := hid_sub _ _ _ _ e2
  have F₁ : Fm H env (r :: X) (r :: Z) μ ρ s₁.heap := F.hide1 (ksub k₁) hr0 ⟨_, e3⟩
  have pm : ∀ {xs : List α} {l : List Value}, Paired (fun x v => R x (hid (usedIn s.heap) s₁.heap) v) xs l → (∀ a h h' v, a ∈ xs → R a h v → R a h' v) → Paired (fun x v => R x (hid (r :: Z) s₁.heap) v) xs l := fun p => by
    induction p with
    | nil => intro _; exact .nil
    | cons a b ih => intro f; exact .cons (f _ _ _ _ (.head _) a) (ih fun a h h' v m => f a h h' v (.tail _ m))
  have F₂ := F₁.take (.head _) (F.fresh_apart hr0) (F.fresh_own hr0) (mono_OL mR) e3 ⟨vs, kk, rfl, pm hp fl⟩
  exact st_name F₂ (flat_V _).mono rfl hy fun s₄ l₄ F₅ => q r s₄ (fun m => by obtain ⟨o, e⟩ := F.live r m; rw [hr0] at e; cases e) ((klike k₁).trans l₄) F₅

/-- x.append(e), x an owned list -/
theorem bl_append {α : Type} {R : α → Sp} {xs : List α} {a : α} {eo e : Expr} {apos pos spos : Pos} {rest : List Stmt} {Q : Flow → Shared → Prop} (F : Fm H env X Z ((r, OL R xs) :: μ) ρ s.heap) (rm : Rm n A)
    (he : IsM env eo "append" apos [e] pos) (ht : backTo pos (starEach [e] env) = [(false, eval e env)]) (hi : interactive env = false) (sw : swapsWith (.Call (.Attribute eo "append" apos) [e] [] pos) none spos.line env = pure false)
    (ev : EV prog w n Z env s.heap e (R a)) (evo : EV prog w n [] env s.heap eo (V (.ref r))) (mR : ∀ a, Mono (R a)) (hl : xs.length ≤ sizeLine)
    (q : ∀ s', Like s s' → Fm H env X Z ((r, OL R (xs ++ [a])) :: μ) ρ s'.heap → wpAny (model prog w) A (execs rest env) Q E s') :
    wpAny (model prog w) A (execs (.Expr (.Call (.Attribute eo "append" apos) [e] [] pos) spos :: rest) env) Q E s := by
  refine wpAny_execs_cons (wpAny_Expr_any ?_ hi sw)
  refine wp_meth he (wp_ev (h := s.heap) (n := n) (Z := []) evo rm (Sub.refl _) fun ov s₁ k₁ e => ?_)
  cases e
  have F₁ := F.keep (ksub k₁)
  obtain ⟨_, _, _, o1, eo1, vs1, kk1, e1, _⟩ := F₁.head
  refine Calls.getMethod_list_append eo1 (by rw [e1]) (by rw [e1]) ?_
  refine cw_builtin (h := s₁.heap) A s₁ E _ pos [.ref r] _ (Sub.refl _) (by rw [ht]; rfl) (wp_spl1 (n := n) (h := s.heap) (Z := Z) ht ev (mR _) rm (ksub k₁) fun v s₂ k₂ hv => ⟨ksub k₂, ?_⟩)
  have F₂ := F₁.keep (ksub k₂)
  obtain ⟨_, _, _, o2, eo2, vs, k, rfl, hp⟩ := F₂.head
  have hn : vs.size = xs.length := by have := hp.length; simp at this; lia
  refine wpAny_list_append_plain (hsz := by lia) ⟨k, eo2⟩ fun h' hl' sb => ?_
  obtain ⟨k', e'⟩ := hl'
  have kz : Sub (hid Z s₂.heap) (hid Z h') := sb_hid F₂.xZ sb
  refine q _ (((klike k₁).trans (klike k₂)).trans ⟨h', _, rfl⟩) (F₂.turn (fun b o hb e => sb.extBut b o hb e) (mono_OL mR) e' ⟨_, k', rfl, ?_⟩)
  rw [Array.toList_push]
  exact paired_append (paired_imp (fun a v q => mR a _ _ _ kz q) hp) (.cons (mR _ _ _ _ kz hv) .nil)
end
end
section
open PySem PySem.W PyProof.Rows
set_option Elab.async false
set_option maxRecDepth 100000
set_option linter.unusedVariables false
section
variable {prog : Program} {w : World} {H : Heap} {env : Env} {X Z Z0 Z1 Z2 : List Addr} {μ μ' : List (Addr × MSp)} {ρ : List (Str × Sp)} {h h' : Heap} {A : Around} {E : Value → Shared → Prop} {s : Shared} {n : Nat} {r x d : Addr}
theorem EV.to {e : Expr} {S S' : Sp} (x : EV prog w n Z env h e S) (q : S = S') : EV prog w n Z env h e S' := q ▸ x
theorem EV.eqI {e : Expr} {a b : Int} (q : a = b) (x : EV prog w n Z env h e (I a)) : EV prog w n Z env h e (I b) := q ▸ x
theorem evb_cmpr {e1 e2 : Expr} {op : CmpOp} {pos : Pos} {S1 S2 : Sp} {b : Bool} (x : EV prog w n Z1 env h e1 S1) (y : EV prog w n Z2 env h e2 S2) (m : Mono S1) (hm : behindInMarks op e2 = false) (r : CmpR prog w n op S1 S2 b) : EVb prog w n env h (.Compare e1 [op] [e2] pos) b :=
  evb_cmp x y m hm fun A s E a c rm h1 h2 => r A s Z1 Z2 E a c rm h1 h2
theorem ev_list0 {pos : Pos} {α : Type} {R : α → Sp} (zl : Zl h Z) (mR : ∀ a, Mono (R a)) : EV prog w n Z env h (.List [] pos) (Ls R []) := ev_list (xs := []) zl rfl .nil (by simp [sizeLine]) mR
theorem ev_list1 {e1 : Expr} {pos : Pos} {α : Type} {R : α → Sp} {a : α} (zl : Zl h Z) (ht : backTo pos (starEach [e1] env) = [(false, eval e1 env)]) (x : EV prog w n Z env h e1 (R a)) (mR : ∀ a, Mono (R a)) : EV prog w n Z env h (.List [e1] pos) (Ls R [a]) :=
  ev_list (xs := [a]) zl ht (.cons x (mR _) .nil) (by simp [sizeLine]) mR
theorem ev_list3 {e1 e2 e3 : Expr} {pos : Pos} {α : Type} {R : α → Sp} {a b c : α} (zl : Zl h Z) (ht : backTo pos (starEach [e1, e2, e3] env) = [(false, eval e1 env), (false, eval e2 env), (false, eval e3 env)]) (x : EV prog w n Z env h e1 (R a)) (y : EV prog w n Z env h e2 (R b)) (z : EV prog w n Z env h e3 (R c)) (mR : ∀ a, Mono (R a)) : EV prog w n Z env h (.List [e1, e2, e3] pos) (Ls R [a, b, c]) :=
  ev_list (xs := [a, b, c]) zl ht (.cons x (mR _) (.cons y (mR _) (.cons z (mR _) .nil))) (by simp [sizeLine]) mR
/-- a call of a function of one thing -/
theorem ev_pc1 {f e1 : Expr} {pos : Pos} {S1 S : Sp} {a : Addr} {fd : FuncData} (isn : IsN env f [e1] pos) (ht : backTo pos (starEach [e1] env) = [(false, eval e1 env)]) (ev : EV prog w n [] env h f (V (.ref a))) (fa : FnAt h a fd) (zl : Zl h Z) (x1 : EV prog w n Z env h e1 S1) (m1 : Mono S1) (pc : PC prog w n h a [S1] S) :
    EV prog w n Z env h (.Call f [e1] [] pos) S := let ⟨o, ho, hd⟩ := fa.obj; ev_callf isn ht ev ho hd (.cons x1 m1 .nil) zl pc
theorem ev_pc2 {f e1 e2 : Expr} {pos : Pos} {S1 S2 S : Sp} {a : Addr} {fd : FuncData} (isn : IsN env f [e1, e2] pos) (ht : backTo pos (starEach [e1, e2] env) = [(false, eval e1 env), (false, eval e2 env)]) (ev : EV prog w n [] env h f (V (.ref a))) (fa : FnAt h a fd) (zl : Zl h Z) (x1 : EV prog w n Z env h e1 S1) (m1 : Mono S1) (x2 : EV prog w n Z env h e2 S2) (m2 : Mono S2) (pc : PC prog w n h a [S1, S2] S) :
    EV prog w n Z env h (.Call f [e1, e2] [] pos) S := let ⟨o, ho, hd⟩ := fa.obj; ev_callf isn ht ev ho hd (.cons x1 m1 (.cons x2 m2 .nil)) zl pc
end
end
section
open PySem PySem.W PyProof.Rows
set_option Elab.async false
set_option maxRecDepth 100000
set_option linter.unusedVariables false
section
variable {prog : Program} {w : World}
variable {α β : Type} {R : α → Sp} {R' : β → Sp} {xs : List α} {p : α → Bool} {f : α → β} {ρx : α → List (Str × Sp)} {env : Env} {target elt iter : Expr} {x : Str} {px : Pos} {ifs : List Expr} {scope : Scope} {pos : Pos} {n : Nat} {Z Zr : List Addr} {h : Heap} {ρ ρc : List (Str × Sp)} {S : Sp}
theorem Fm.nsC {H : Heap} {X : List Addr} {μ : List (Addr × MSp)} {C : Addr} {m : Str → Option Value} {h h' : Heap} (F : Fm H env X Z μ ρ h) (k : Sub h h') (hC : h.get? C = none) (hn : h'.Ns C m) : Fm H env (C :: X) (C :: Z) ((C, fun _ o => ∀ h'' : Heap, h''.get? C = some o → h''.Ns C m) :: μ) ρ h' := by
  obtain ⟨o, es, ep, e, r⟩ := hn
  exact (F.hide1 k hC ⟨o, e⟩).take (.head _) (F.fresh_apart hC) (F.fresh_own hC) (fun h h' o k q => q) e fun h'' e' => ⟨o, es, ep, e', r⟩
/-- y = [.. for .. in .. if ..], a name of the frame -/
theorem bl_compU {H : Heap} {X : List Addr} {μ : List (Addr × MSp)} {y : Str} {py spos : Pos} {rest : List Stmt} {Q : Flow → Shared → Prop} {A : Around} {E : Value → Shared → Prop} {s : Shared} (F : Fm H env X Z μ ρ s.heap) (rm : Rm n A) (ev : EV prog w n Z env s.heap iter S) (it : Itr prog w R xs S) (mR' : ∀ b, Mono (R' b)) (hsz : xs.length ≤ sizeLine)
    (sc : ScG scope env) (cp : Cap env scope ρ ρc) (hs : ∀ x, foldedSetIterable iter env x = pure x) (hy : Stores env y)
    (sw : swapsWith (.ListComp elt [⟨target, iter, ifs, 0⟩] scope pos) (some (.Name y py)) spos.line env = pure true)
    (tg : TG prog w env scope target R ρx) (hρx : ∀ a x S, (ρx a).lookup x = some S → scope.names.lookup x = some .local ∧ Mono S)
    (tests : ∀ (i : Nat) a C D I h', xs[i]? = some a → Sub s.heap h' → Loc (compEnvC scope (clFold env.cells scope.names []) C env) (D :: C :: I :: Z) (ρx a ++ ρc) h' → Zl h' (D :: C :: I :: Z) →
      EVts prog w n (compEnvC scope (clFold env.cells scope.names []) C env) h' ifs (p a))
    (helt : ∀ (i : Nat) a C D I h', xs[i]? = some a → p a = true → Sub s.heap h' → Loc (compEnvC scope (clFold env.cells scope.names []) C env) (D :: C :: I :: Z) (ρx a ++ ρc) h' → Zl h' (D :: C :: I :: Z) →
      EV prog w n (D :: C :: I :: Z) (compEnvC scope (clFold env.cells scope.names []) C env) h' elt (R' (f a)))
    (q : ∀ s', Like s s' → Fm H env X Z μ ((y, Ls R' ((xs.filter p).map f)) :: ρ) s'.heap → wpAny (model prog w) A (execs rest env) Q E s') :
    wpAny (model prog w) A (execs (.Assign [.Name y py] (.ListComp elt [⟨target, iter, ifs, 0⟩] scope pos) spos :: rest) env) Q E s := by
  refine wpAny_execs_cons ?_
  rw [exec_Assign_Name_used y py _ _ sw]
  refine wpAny_bind (wpAny_standAt (wpAny_bind ?_))
  show wpAny (model prog w) A (do let _ ← comprehension (.ListComp elt [⟨target, iter, ifs, 0⟩] scope pos) scope env (firstIterPos [⟨target, iter, ifs, 0⟩] pos) (newList []) false (eval iter env) (some (assign (.Name y py) env))) _ E s
  refine wpAny_bind ?_
  refine comp_core F.loc ev it mR' hsz sc cp hs F.live tg hρx tests helt rm (Sub.refl _) fun D C m' s' k' hC hn hl => ?_
  have hnz : C ∉ Z := fun q => by obtain ⟨o, e⟩ := F.live C q; rw [hC] at e; cases e
  have G := F.nsC (ksub k') hC hn
  refine wpAny_assign_Name (st_name G (mono_Ls mR' _) hl hy fun s'' l'' G' => ?_)
  obtain ⟨_, ap, nm, o, eo, po⟩ := G'.head
  refine ⟨m', po _ eo, fun h'' sb => wpAny_pure (wpAny_pure (q _ (((klike k').trans l'').trans ⟨h'', _, rfl⟩) ?_))⟩
  exact G'.leave.other_drop ap nm F.xz hnz fun b o hb e => sb.extBut b o hb e
theorem bl_compn {H : Heap} {X : List Addr} {μ : List (Addr × MSp)} {y : Str} {py spos : Pos} {rest : List Stmt} {Q : Flow → Shared → Prop} {A : Around} {E : Value → Shared → Prop} {s : Shared} (F : Fm H env X Z μ ρ s.heap) (rm : Rm n A) (ev : EV prog w n Z env s.heap iter S) (it : Itr prog w R xs S) (mR : ∀ a, Mono (R a)) (mR' : ∀ b, Mono (R' b)) (hsz : xs.length ≤ sizeLine)
    (sc : ScOk scope env x) (cp : Cap env scope ρ ρc) (hs : ∀ x, foldedSetIterable iter env x = pure x) (hy : Stores env y)
    (sw : swapsWith (.ListComp elt [⟨.Name x px, iter, [], 0⟩] scope pos) (some (.Name y py)) spos.line env = pure true)
    (helt : ∀ (i : Nat) a C D I h', xs[i]? = some a → Sub s.heap h' → Loc (compEnvC scope (clFold env.cells scope.names []) C env) (D :: C :: I :: Z) ((x, R a) :: ρc) h' → Zl h' (D :: C :: I :: Z) →
      EV prog w n (D :: C :: I :: Z) (compEnvC scope (clFold env.cells scope.names []) C env) h' elt (R' (f a)))
    (q : ∀ s', Like s s' → Fm H env X Z μ ((y, Ls R' (xs.map f)) :: ρ) s'.heap → wpAny (model prog w) A (execs rest env) Q E s') :
    wpAny (model prog w) A (execs (.Assign [.Name y py] (.ListComp elt [⟨.Name x px, iter, [], 0⟩] scope pos) spos :: rest) env) Q E s := by
  refine bl_compU (p := fun _ => true) (f := f) (R' := R') (elt := elt) (pos := pos) (ifs := []) F rm ev it mR' hsz ⟨sc.free, sc.cell, sc.kind, sc.names⟩ cp hs hy sw (tg_name (px := px) sc.kind sc.x) (fun a y T e => by
      rw [List.lookup_cons] at e
      cases hb : y == x with
      | true => rw [hb] at e; cases e; rw [beq_iff_eq.mp hb]; exact ⟨sc.x, mR a⟩
      | false => rw [hb] at e; cases e) (fun i a C D I h' e k l _ => evts_nil) (fun i a C D I h' e _ k l z => helt i a C D I h' e k l z) fun s' l' F' => q s' l' ?_
  have e : xs.filter (fun _ => true) = xs := List.filter_eq_self.mpr fun _ _ => rfl
  rw [e] at F'
  exact F'
end
end
section
open PySem PySem.W PyProof.Rows
open PySem.Sem (wp)
set_option Elab.async false
set_option maxRecDepth 100000
set_option linter.unusedVariables false
set_option maxHeartbeats 4000000
noncomputable def SeqAt (h : Heap) (a : Addr) (items : Array Value) : Prop := ∃ o n, h.get? a = some o ∧ o.data = .seq items n
theorem SeqAt.keep {h h' : Heap} {a items} (x : SeqAt h a items) (k : ∀ o, h.get? a = some o → h'.get? a = some o) : SeqAt h' a items := let ⟨o, n, e, d⟩ := x; ⟨o, n, k _ e, d⟩
section
variable {prog : Program} {w : World} {A : Around} {E : Value → Shared → Prop} {s : Shared}
theorem pyNext_item {it l : Addr} {i : Nat} {items} {x : Value} {Q : Option Value → Shared → Prop} (hit : s.heap.IsListIter it l i)
    (hl : SeqAt s.heap l items) (hx : items[i]? = some x)
    (hQ : ∀ h', h'.IsListIter it l (i + 1) → Heap.SameBut it s.heap h' → Q (some x) { s with heap := h' }) :
    wpAny (model prog w) A (pyNext (.ref it)) Q E s := by
  obtain ⟨o, ho, hc, hd⟩ := id hit
  obtain ⟨ol, nl, hol, hdl⟩ := hl
  unfold pyNext
  refine wpAny_bind (wpAny_attempt (wpAny_callSpecial?_slot (name := Str.ofString "__next__") hit.typeIs slot_listiter_next
    (wpAny_call_entry slot_listiter_next hit.typeIs entry_listiter_next ?_ (args_listiter_next _))))
  show wpAny _ _ (field (.ref it) 0 >>= _) _ _ s
  refine wpAny_bind (wpAny_field ho hd (x := .ref l) rfl ?_)
  show wpAny _ _ (if (Value.ref l == Value.none) = true then _ else _) _ _ s
  rw [if_neg (show ¬ ((Value.ref l == Value.none) = true) from Bool.false_ne_true)]
  show wpAny _ _ (field (.ref it) 1 >>= _) _ _ s
  refine wpAny_bind (wpAny_field ho hd (x := .int i 0) rfl ?_)
  show wpAny _ _ (seqItems? (.ref l) >>= _) _ _ s
  refine wpAny_bind (wpAny_seqItems hol hdl ?_)
  simp only [Int.toNat_natCast, hx]
  refine wpAny_bind (wpAny_setField ho hd (by simp) (wpAny_pure ⟨x, rfl, wpAny_pure (hQ _ ?_ (Heap.SameBut.update ..))⟩))
  exact ⟨_, Heap.get?_update_self _ ho (Obj.isFreed_of_fields (Obj.data_mapFields hd _)), (Obj.cls_mapFields ..).trans hc, by
    rw [Obj.data_mapFields hd]; simp [rawInt]⟩
theorem pyNext_end {it l : Addr} {i : Nat} {items} {Q : Option Value → Shared → Prop} (hh : A.handled = none)
    (hit : s.heap.IsListIter it l i) (hl : SeqAt s.heap l items) (hx : items[i]? = none)
    (hQ : ∀ h', Heap.ExtBut it s.heap h' → Q none { s with heap := h' }) : wpAny (model prog w) A (pyNext (.ref it)) Q E s := by
  obtain ⟨o, ho, hc, hd⟩ := id hit
  obtain ⟨ol, nl, hol, hdl⟩ := hl
  unfold pyNext
  refine wpAny_bind (wpAny_attempt (wpAny_callSpecial?_slot (name := Str.ofString "__next__") hit.typeIs slot_listiter_next
    (wpAny_call_entry slot_listiter_next hit.typeIs entry_listiter_next ?_ (args_listiter_next _))))
  show wpAny _ _ (field (.ref it) 0 >>= _) _ _ s
  refine wpAny_bind (wpAny_field ho hd (x := .ref l) rfl ?_)
  show wpAny _ _ (if (Value.ref l == Value.none) = true then _ else _) _ _ s
  rw [if_neg (show ¬ ((Value.ref l == Value.none) = true) from Bool.false_ne_true)]
  show wpAny _ _ (field (.ref it) 1 >>= _) _ _ s
  refine wpAny_bind (wpAny_field ho hd (x := .int i 0) rfl ?_)
  show wpAny _ _ (seqItems? (.ref l) >>= _) _ _ s
  refine wpAny_bind (wpAny_seqItems hol hdl ?_)
  simp only [Int.toNat_natCast, hx]
  refine wpAny_bind (wpAny_rule (wpAny_bind (wpAny_setField ho hd (by simp) ?_)))
  show wpAny _ _ (newExc (.type "StopIteration") [] >>= _) _ _ _
  refine wpAny_bind ?_
  simp only [newExc, newTuple]
  refine wpAny_bind (wpAny_newObj_type ?_ (by size_fits))
  refine wpAny_bind (m := firstArgMember _ _) (wpAny_of_eq (a := Value.none) (by first | rfl | (simp only [firstArgMember]; rfl)) ?_)
  refine wpAny_newObj_type ?_ (by size_fits)
  simp only [raiseNew]
  refine wpAny_bind (wpAny_handled ?_)
  rw [show A.in1.handled = none from hh]
  refine wpAny_bind (wpAny_pure (wpAny_throw ?_))
  refine wpAny_bind (wpAny_isInstance (T := "StopIteration") (b := true) ⟨_, Heap.get?_push_size _ rfl, rfl⟩ isSubtype_stop ?_)
  exact wpAny_pure (hQ _ (((Heap.SameBut.update ..).extBut.push _).push _))
end
theorem walksU_seq {prog : Program} {w : World} {A : Around} (hh : A.handled = none) (I ax : Addr) (hne : ax ≠ I) (items : Array Value) (Ts : Nat → Addr) (vals : Nat → Array Value)
    (hit : ∀ j, j < items.size → items[j]? = some (.ref (Ts j))) (hTI : ∀ j, j < items.size → Ts j ≠ I) :
    WalksU prog w A I (I :: ax :: (List.range items.size).map Ts) [I] items.size (fun j v => j < items.size ∧ v = vals j)
      (fun j h => h.IsListIter I ax j ∧ SeqAt h ax items ∧ ∀ k, k < items.size → h.IsTuple (Ts k) (vals k))
      (fun j T h => (j < items.size ∧ T = Ts j) ∧ h.IsListIter I ax (j + 1) ∧ SeqAt h ax items ∧ ∀ k, k < items.size → h.IsTuple (Ts k) (vals k)) where
  sub := fun b hb => by simp at hb; simp [hb]
  frame := fun _ _ _ st hk => ⟨st.1.at fun o e => hk I (by simp) o e, st.2.1.keep fun o e => hk ax (by simp) o e,
    fun k hk' => (st.2.2 k hk').at fun o e => hk (Ts k) (List.mem_cons_of_mem _ (List.mem_cons_of_mem _ (List.mem_map.mpr ⟨k, List.mem_range.mpr hk', rfl⟩))) o e⟩
  item := fun i s Q E hi st hQ => by
    refine pyNext_item st.1 st.2.1 (x := .ref (Ts i)) (hit i hi) fun h' hit' hs' => ?_
    have tup : ∀ k, k < items.size → h'.IsTuple (Ts k) (vals k) := fun k hk' => (st.2.2 k hk').extBut hs'.extBut (hTI k hk')
    exact hQ (Ts i) (vals i) h' s.toks ⟨hi, rfl⟩ (tup i hi) ⟨⟨hi, rfl⟩, hit', st.2.1.keep fun o e => hs'.extBut _ o hne e, tup⟩ fun b o hb e => hs'.extBut b o (fun h => hb (by simp [h])) e
  go := fun _ _ _ _ _ s Q _ hm hQ => wpAny_letOwnedTupleGo_listiter hm.2.1 (hQ s.heap hm.2 fun _ _ _ e => e)
  apart := fun j T _ hm hmem => by
    rcases List.mem_cons.mp hmem with e | e
    · exact hTI j hm.1.1 (hm.1.2 ▸ e)
    · cases e
  done := fun s Q E st hQ => pyNext_end hh st.1 st.2.1 (by simp) fun h' he' => hQ h' s.toks fun b o hb e => he' b o (fun h => hb (by simp [h])) e
  self := fun _ _ _ _ st hQ => wpAny_pyIter_listiter st.1 hQ
theorem acc_iter (P : Params) : findIn (K1 P) (.ref 125) "__iter__" = some (some (.builtin "list.__iter__")) := by kernel_rfl
section
variable {prog : Program} {w : World} {A : Around} {E : Value → Shared → Prop} {s : Shared} {x d : Addr} {xs : Array Value} {n nn : Nat} {k : Int}
theorem iter_acc {Q : Value → Shared → Prop} (X : (KW w).In s.heap) (a : AccAt (KW w) s.heap x d xs n k)
    (q : Q (.ref s.heap.objs.size) { s with heap := s.heap.push { cls := .type "list_iterator", data := .fields #[.ref x, .int 0 0] } }) : wpAny (model prog w) A (call (.builtin "list.__iter__") [.ref x]) Q E s := by
  refine call_bi (owner := "list") (nm := "__iter__") (by decide +kernel) (by first | exact .inl (by decide +kernel) | exact .inr (by decide +kernel)) (by decide +kernel) (acc_inst X a (.inl rfl)) entry_list_iter (args_list_iter _) ?_
  show wpAny _ _ (do ret (← newFields "list_iterator" [.ref x, rawInt 0])) _ _ s
  exact wpAny_bind (wpAny_newObj_type (wpAny_pure q))
theorem pyIter_acc {Q : Value → Shared → Prop} (X : (KW w).In s.heap) (a : AccAt (KW w) s.heap x d xs n k)
    (q : Q (.ref s.heap.objs.size) { s with heap := s.heap.push { cls := .type "list_iterator", data := .fields #[.ref x, .int 0 0] } }) : wpAny (model prog w) A (pyIter (.ref x)) Q E s := by
  obtain ⟨od, I, _⟩ := a.inst
  unfold pyIter
  have L : Looks (model prog w) s.heap (specialOf (.ref x) "__iter__") (some (.builtin "list.__iter__")) := I.type.andThen (looks_findIn X (acc_iter w.params))
  refine wpAny_bind (L.here ?_)
  show wpAny _ A (callSpecialIfBoundUnlessNone? _ "__iter__" _ >>= _) Q E s
  refine wpAny_bind ?_
  simp only [callSpecialIfBoundUnlessNone?, bindSpecialIfBound?]
  refine wpAny_holding (wpAny_bind (wpAny_bind (L.here ?_)))
  simp only [slot_list_iter.bind]
  refine wpAny_bind (wpAny_askSetting (wpAny_ite ?_))
  have fin : ∀ (refuse : Sem Value) (Q' : Option Value → Shared → Prop), Q' (some (.ref s.heap.objs.size)) { s with heap := s.heap.push { cls := .type "list_iterator", data := .fields #[.ref x, .int 0 0] } } →
      wpAny (model prog w) A (if (Value.builtin "list.__iter__" == Value.none) = true then (refuse >>= fun v => pure (some v)) else (call (.builtin "list.__iter__") [.ref x] >>= fun v => pure (some v))) Q' E s := fun refuse Q' q' => by
    simp only [builtin_beq_none, Bool.false_eq_true, if_false]
    exact wpAny_bind (iter_acc X a (wpAny_pure q'))
  have nx : ∀ (Q' : Value → Shared → Prop), Q' (.ref s.heap.objs.size) { s with heap := s.heap.push { cls := .type "list_iterator", data := .fields #[.ref x, .int 0 0] } } → wpAny (model prog w) A (specialOf (.ref s.heap.objs.size) "__next__" >>= fun r => match r with
      | none => (do rule "iter.non-iterator"; raiseError "TypeError" s!"iter() returned non-iterator of type '{← typeNameOf (.ref s.heap.objs.size)}'")
      | some _ => pure (.ref s.heap.objs.size)) Q' E { s with heap := s.heap.push { cls := .type "list_iterator", data := .fields #[.ref x, .int 0 0] } } := fun Q' q' =>
    wpAny_bind (wpAny_specialOf ⟨_, Heap.get?_push_size _ rfl, rfl⟩ slot_listiter_next.lookup (wpAny_pure q'))
  split
  · exact wpAny_bind (wpAny_pure (wpAny_pure (fin _ _ (nx _ q))))
  · exact wpAny_tryCatch (wpAny_bind (wpAny_pure (wpAny_pure (fin _ _ (nx _ q)))))
theorem entry_lga : entryFor table "list.__getattribute__" = some Builtin.«object.__getattribute__» := entryFor_alias (id' := "object.__getattribute__") (by kernel_rfl) (by decide +kernel) (by decide +kernel) (by kernel_rfl)
theorem args_lga (a b : Value) : argsOk "list.__getattribute__" ⟨[a, b], []⟩ := by unfold argsOk; kernel_rfl
theorem slot_lga : Slot "list" "__getattribute__" "list.__getattribute__" := .of (owner := "list") (n := "__getattribute__") (by rw [typeLookup_type, builtinLookup_eq_fast]; kernel_rfl) (by decide +kernel) (by decide +kernel) (by decide +kernel)
  (by first | exact .inl (by decide +kernel) | exact .inr (by decide +kernel)) (by rw [isSubtype_type]; kernel_rfl)
theorem get_size {expr : Bool} {Q : Value → Shared → Prop} (X : (KW w).In s.heap) (a : AccAt (KW w) s.heap x d xs n k) (q : ∀ t, Q (.int k t) { s with toks := s.toks + 1 }) : wpAny (model prog w) A (getAttr (.ref x) (Str.ofString "_initial_size") expr) Q E s := by
  obtain ⟨od, v, ed, lk, ⟨t, rfl⟩, _⟩ := a.size
  have I : InstAt s.heap x (accObj d xs n) 125 (some od) := ⟨a.at_, rfl, rfl, ed⟩
  have L0 := I.type (M := model prog w)
  have L1 := looks_findIn (M := model prog w) X (acc_ga w.params)
  have L2 := looks_findIn (M := model prog w) X (acc_gn w.params)
  have hf : findObj (KW w) 125 (some od) (Str.ofString "_initial_size") = some (.value (.int k t)) := findObj_own (attr := none) (by unfold hasDictIn; rw [acc_cd]; exact acc_hasDict _) (acc_is _) rfl lk
  have L3 := looks_find (M := model prog w) X I hf
  have hi : Looks (model prog w) s.heap (isInstance (.ref x) (.type "list")) true := acc_inst X a (.inl rfl)
  obtain ⟨hh', g, dr, tk, os⟩ := s
  unfold getAttr getAttrBy
  refine wpAny_bind (wpAny_mkText (wpAny_holding (wpAny_bind (L0.at (wpAny_bind (L1.at ?_))))))
  show wpAny _ _ (getAttrByItsOwn _ _ _ _ _ _) _ _ _
  unfold getAttrByItsOwn hookBefore callGetattribute boundAndCalled
  refine wpAny_bind (L2.at ?_)
  refine wpAny_bind (wpAny_attempt (wpAny_holding ?_))
  rw [if_neg (show ¬ ((expr && onTheHeap (.builtin "list.__getattribute__")) = true) by rw [show onTheHeap (.builtin "list.__getattribute__") = false from rfl, Bool.and_false]; exact Bool.false_ne_true)]
  refine wpAny_bind (wpAny_of_eq (slot_lga.bind _) ?_)
  refine call_bi (owner := "list") (nm := "__getattribute__") (by decide +kernel) (by first | exact .inl (by decide +kernel) | exact .inr (by decide +kernel)) (by decide +kernel) hi entry_lga (args_lga _ _) ?_
  unfold Builtin.«object.__getattribute__»
  refine wpAny_bind (wpAny_pure ?_)
  refine wpAny_bind (wpAny_pure (wpAny_bind (L0.at (wpAny_bind (L3.at ?_)))))
  refine wpAny_pure ?_
  show wpAny _ _ (handedOut (.int k t)) _ _ _
  exact wpAny_pure (q t)
end
end
section
open PySem PySem.W PyProof.Rows
set_option Elab.async false
set_option maxRecDepth 100000
set_option linter.unusedVariables false
set_option maxHeartbeats 4000000
/-- as `Like`; generators may have been made -/
noncomputable def LikeG (s s' : Shared) : Prop := s'.drawn = s.drawn ∧ s'.os = s.os ∧ (AllBare s.gens → AllBare s'.gens)
theorem LikeG.trans {a b c : Shared} (x : LikeG a b) (y : LikeG b c) : LikeG a c := ⟨y.1.trans x.1, y.2.1.trans x.2.1, fun g => y.2.2 (x.2.2 g)⟩
theorem Like.g {a b : Shared} (x : Like a b) : LikeG a b := by obtain ⟨_, _, rfl⟩ := x; exact ⟨rfl, rfl, id⟩
theorem WalksS.shift {prog : Program} {w : World} {A : Around} {I : Addr} {fp wr : List Addr} {G : Array GenState → Array GenState → Prop} {n : Nat} {P : Nat → Value → Prop} {St : Nat → Shared → Prop} (W : WalksS prog w A I fp wr G n P St) (P0 : Value → Prop) :
    WalksS prog w A I fp wr G (n + 1) (fun i v => match i with | 0 => P0 v | i + 1 => P i v) (fun i s => match i with | 0 => False | i + 1 => St i s) where
  sub := W.sub
  grefl := W.grefl
  gtrans := W.gtrans
  frame := fun i s h' tk st a b => match i, st with | i + 1, st => W.frame i s h' tk st a b
  item := fun i s Q E hi st q => match i, hi, st, q with | i + 1, hi, st, q => W.item i s Q E (Nat.lt_of_succ_lt_succ hi) st q
  done := fun s Q E st q => W.done s Q E st q
  self := fun i s Q E st q => match i, st with | i + 1, st => W.self i s Q E st q
noncomputable def startVal (c : Int) (val : Nat → Int) : Nat → Int | 0 => c | i + 1 => val i
theorem preSum_start (c : Int) (val : Nat → Int) : ∀ j, preSum (startVal c val) (j + 1) = c + preSum val j
  | 0 => by simp [preSum, startVal]
  | j + 1 => by rw [preSum, preSum_start c val j]; show c + preSum val j + val j = c + (preSum val j + val j); lia
theorem args_sum2 (a b : Value) : argsOk "sum" ⟨[a, b], []⟩ := by unfold argsOk; kernel_rfl
section
variable {prog : Program} {w : World} {A : Around} {E : Value → Shared → Prop} {s : Shared}
theorem call_sum2 {x : Value} {c : Int} {t : Tok} {Q : Value → Shared → Prop} (hc : InLong c)
    (h : wpAny (model prog w) A.in1 (pyIter x) (fun it s₂ => ∃ I fp wr G n P St val, it = .ref I ∧ WalksS prog w A.in1 I fp wr G n P St ∧ St 0 s₂ ∧ (∀ b ∈ fp, b < s₂.heap.objs.size) ∧
      (∀ i v, P i v → ∃ t, v = .int (val i) t) ∧ (∀ j, j < n → InLong (val j) ∧ InLong (c + preSum val (j + 1))) ∧
      ∀ s' t', Moved wr G s₂ s' → Q (.int (c + preSum val n) t') s') E s) :
    wpAny (model prog w) A (call (.builtin "sum") [x, .int c t]) Q E s := by
  refine call_function_tree F.kind_sum F.plain_sum F.entry_sum (args_sum2 _ _) ?_
  unfold Builtin.«sum»
  simp only [List.length_cons, List.length_nil]
  rw [if_neg (by decide)]
  refine wpAny_bind (wpAny_of_eq (show Builtin.Builtins.bindParams "sum" ["start"] 0 ⟨[.int c t], []⟩ = pure [some (.int c t)] from rfl) ?_)
  refine wpAny_bind (wpAny_mono h (fun it s₂ h₂ => ?_) fun _ _ e => e)
  obtain ⟨I, fp, wr, G, n, P, St, val, rfl, W, hst, hfp, hval, hfit, hQ⟩ := h₂
  have hcc : (decide (-(2 ^ 63) ≤ c) && decide (c < 2 ^ 63)) = true := by simp only [Bool.and_eq_true, decide_eq_true_eq]; exact hc
  show wpAny _ A.in1 (if (_ : Bool) = true then (rule "sum.start-copied" >>= _) else _) _ _ _
  split
  · refine wpAny_bind (wpAny_rule (wpAny_bind (wpAny_mkInt ?_)))
    refine wpAny_bind (wpAny_pure ?_)
    simp only [List.forIn_cons, List.forIn_nil]
    refine wpAny_bind (wpAny_bind (wpAny_bind (wpAny_isInstance (T := "int") (b := false) (typeIs_int _ _ _) PySem.sub_int_str ?_)))
    simp only [Bool.false_eq_true, if_false]
    refine wpAny_pure (wpAny_bind (wpAny_bind (wpAny_isInstance (T := "int") (b := false) (typeIs_int _ _ _) PySem.sub_int_bytes ?_)))
    simp only [Bool.false_eq_true, if_false]
    refine wpAny_pure (wpAny_bind (wpAny_bind (wpAny_isInstance (T := "int") (b := false) (typeIs_int _ _ _) PySem.sub_int_bytearray ?_)))
    simp only [Bool.false_eq_true, if_false]
    refine wpAny_pure (wpAny_pure ?_)
    refine wpAny_bind (wpAny_newObj_type ?_)
    have hSf : s₂.heap.objs.size ∉ fp := fun hm => Nat.lt_irrefl _ (hfp _ hm)
    have W' := WalksS.shift W (fun v => ∃ t, v = .int c t)
    have hstep : s₂.toks ≤ s₂.toks + 1 := Nat.le_succ _
    have st1 := W.frame 0 s₂ (s₂.heap.push { cls := .type "list", dict := none, data := .seq ([Value.int c s₂.toks] : List Value).toArray }) (s₂.toks + 1) hst hstep fun b _ o e => Heap.get?_push_of_some _ e
    refine wpAny_pure ⟨plainId_quiet F.plain_sum_loop _, codeAny_sum_loopS W' (startVal c val) (fun i v hv => ?_) (fun j hj => ?_) s₂.heap.objs.size hSf n 1 _ s₂.toks 0 (by lia) (by lia) st1 ?_ fun s' t' hm => ?_⟩
    · cases i with
      | zero => exact hv
      | succ i => exact hval i v hv
    · rw [preSum_start]
      cases j with
      | zero => simp only [startVal, preSum]; rw [Int.add_zero]; exact ⟨hc, hc⟩
      | succ j => exact hfit j (by lia)
    · have e : preSum (startVal c val) 1 = c := by rw [preSum_start]; simp [preSum]
      rw [e]
      exact Heap.get?_push_size _ rfl
    · rw [preSum_start]
      exact hQ s' t' (hm.drop_new hstep)
  · rename_i hneg
    exact absurd hcc hneg
end
end
section
open PySem PySem.W PyProof.Rows
set_option Elab.async false
set_option maxRecDepth 100000
set_option linter.unusedVariables false
set_option maxHeartbeats 4000000
noncomputable section
/-- the table of a code object -/
noncomputable def TabO : MSp := fun _ o => ∃ ps, o.data = .fields ps ∧ TriplesOk ps.toList ∧ o = { cls := .none, data := .fields ps }
theorem mono_TabO : MonoM TabO := fun _ _ _ _ x => x
noncomputable def BM (h : Heap) : Prop := ∃ mg bm ob, BMod h mainGlobals mg bm ob
theorem BM.sub {h h' : Heap} (k : Sub h h') (b : BM h) : BM h' := let ⟨mg, bm, ob, x⟩ := b; ⟨mg, bm, ob, x.keeps k⟩
theorem noTab (P : Params) : ((K1 P).lookup 87).isNone = true := by kernel_rfl
theorem PF.butTab {w : World} {h h' : Heap} (p : PF (KW w) h) (hx : ∃ o, h.get? 87 = some o ∧ TabO h o) (kk : ∀ b o, b ≠ 87 → h.get? b = some o → h'.get? b = some o) : PF (KW w) h' := by
  obtain ⟨ot, et, ps, hd, _⟩ := hx
  have ns : ∀ {a m}, h.Ns a m → h'.Ns a m := fun {a m} ⟨o, es, ep, e, hd', r⟩ => ⟨o, es, ep, kk _ _ (by rintro rfl; rw [et] at e; cases e; rw [hd] at hd'; cases hd') e, hd', r⟩
  refine ⟨fun a o e => kk a o ?_ (p.X _ _ e), ?_, ?_⟩
  · rintro rfl
    have h1 := noTab w.params
    rw [e] at h1; cases h1
  · obtain ⟨m, a, c⟩ := p.nl
    exact ⟨m, ns a, c⟩
  · obtain ⟨mg, mb, a, c, e⟩ := p.bt
    exact ⟨mg, mb, ns a, ns c, e⟩
theorem BM.butTab {h h' : Heap} (b : BM h) (hx : ∃ o, h.get? 87 = some o ∧ TabO h o) (kk : ∀ b o, b ≠ 87 → h.get? b = some o → h'.get? b = some o) : BM h' := by
  obtain ⟨ot, et, ps, hd, _⟩ := hx
  obtain ⟨mg, bm, ob, x⟩ := b
  refine ⟨mg, bm, ob, ?_, x.name, x.ne, kk _ _ ?_ x.obj, x.cls, x.dict, x.data⟩
  · obtain ⟨o, es, ep, e, hd', r⟩ := x.ns
    exact ⟨o, es, ep, kk _ _ (by rintro q; rw [q, et] at e; cases e; rw [hd] at hd'; cases hd') e, hd', r⟩
  · rintro rfl
    have e := x.obj
    rw [et] at e; cases e
    rw [x.data] at hd; cases hd
theorem code101 (P : Params) : codeHdIn (K1 P) 91 87 = true := by kernel_rfl
theorem isCode97 {w : World} {h : Heap} (X : (KW w).In h) (hx : ∃ o, h.get? 87 = some o ∧ TabO h o) : ∃ ps, h.IsCode 91 87 ps ∧ h.TableAt 91 87 ps := by
  obtain ⟨o, e, ps, hd, ht, ho⟩ := hx
  obtain ⟨oc, vs, file, tf, flags, tg, inF, text, tt, e1, e2, e3, e4, e5, e6, e7, e8, e9, e10⟩ := codeHd_of_K (c := 91) (P := 87) X (code101 w.params)
  exact ⟨ps, ⟨oc, vs, file, tf, flags, tg, inF, text, tt, o, e1, e3, e5, e6, e7, e8, e9, e, hd, ht, e10⟩, ⟨oc, vs, e1, e2, e3, e4⟩, by rw [e, ho]⟩
theorem isCode_tab {h : Heap} {ps} (x : h.IsCode 91 87 ps) (y : h.TableAt 91 87 ps) : ∃ o, h.get? 87 = some o ∧ TabO h o := by
  obtain ⟨oc, vs, file, tf, flags, tg, inF, text, tt, op, e1, e3, e5, e6, e7, e8, e9, e, hd, ht, e10⟩ := x
  have := y.2
  rw [e] at this
  exact ⟨op, e, ps, hd, ht, Option.some.inj this⟩
theorem genexpr_tab {M : Model} {A : Around} {E : Value → Shared → Prop} {s : Shared} {env : Env} {c P : Addr} {ps : Array Value} {pos : Pos} {qualname : Str} {scope : Scope} {Q : Value → Shared → Prop} (hc : env.code = .ref c) (hok : s.heap.IsCode c P ps) (htab : s.heap.TableAt c P ps)
    (hQ : ∀ code h' tk ps', Heap.ExtBut P s.heap h' → h'.IsCode c P ps' → h'.TableAt c P ps' → Q code { s with heap := h', toks := tk }) :
    wpAny M A (genexprCode env pos qualname scope) Q E s := by
  cases hnf : codeAmong pos ps.toList with
  | none => exact wpAny_genexprCodeX hc hok htab hnf fun c' h' tk hx _ _ hcode _ ht _ => hQ _ h' tk _ hx hcode ht
  | some cv =>
    obtain ⟨o, vs, file, tf, flags, tg, inF, text, tt, op, ho, hd, h11, h2, h7, h9, h10, hop, hpd, htr, hne⟩ := id hok
    unfold genexprCode codeAt
    rw [hc, if_neg (show ¬ ((Value.ref c == Value.none) = true) from Bool.false_ne_true)]
    refine wpAny_bind (wpAny_fieldsOf ho hd ?_)
    rw [h11]
    refine wpAny_bind (wpAny_fieldsOf hop hpd ?_)
    rw [hnf]
    exact wpAny_pure (hQ cv s.heap s.toks ps (Heap.ExtBut.refl _ _) hok htab)
theorem fnB_len (P : Params) : isFnB (K1 P) 92 = true := by kernel_rfl
noncomputable def lenSum (items : List (List Nat × List Nat)) : Nat := (items.map fun p => p.1.length + p.2.length).sum
theorem lenSum_pre (items : List (List Nat × List Nat)) (val : Nat → Int) (hv : ∀ i p, items[i]? = some p → val i = ((p.1.length + p.2.length : Nat) : Int)) : ∀ j, j ≤ items.length → preSum val j = (lenSum (items.take j) : Int)
  | 0, _ => by simp [preSum, lenSum]
  | j + 1, h => by
    have hj : items[j]? = some items[j] := List.getElem?_eq_getElem (by lia)
    rw [preSum, lenSum_pre items val hv j (by lia), hv j _ hj, List.take_add_one, hj]
    show _ = ((lenSum (items.take j ++ [items[j]]) : Nat) : Int)
    simp only [lenSum, List.map_append, List.sum_append, List.map_cons, List.map_nil, List.sum_cons, List.sum_nil]
    lia
theorem lenSum_le : ∀ {items : List (List Nat × List Nat)} {m : Nat}, (∀ p ∈ items, p.1.length + p.2.length ≤ m) → lenSum items ≤ items.length * m
  | [], m, h => by simp [lenSum]
  | p :: t, m, h => by
    have h1 := h p (.head _)
    have h2 := lenSum_le (items := t) (m := m) fun q hq => h q (.tail _ hq)
    have e : lenSum (p :: t) = (p.1.length + p.2.length) + lenSum t := by simp [lenSum]
    rw [e, List.length_cons, Nat.succ_mul]
    lia
section
variable {prog : Program} {w : World} {A : Around} {E : Value → Shared → Prop} {s : Shared} {x d : Addr} {xs : Array Value} {nn : Nat} {k : Int} {Z : List Addr}
theorem mc_len {items : List (List Nat × List Nat)} {m : Nat} {R : Result → Shared → Prop} (pf : PF (KW w) s.heap) (bm : BM s.heap) (rm : Rm 6 A) (a : AccAt (KW w) s.heap x d xs nn k)
    (hp : Paired (fun p v => T2 Tl Tl p s.heap v) items xs.toList) (hsz : items.length ≤ 900) (hm : ∀ p ∈ items, p.1.length + p.2.length ≤ m) (hmm : m ≤ 1000000) (hk0 : 0 ≤ k) (hk1 : k ≤ 1000000) (ht : ∃ o, s.heap.get? 87 = some o ∧ TabO s.heap o)
    (q : ∀ s' t, LikeG s s' → (∀ b o, b ≠ 87 → s.heap.get? b = some o → s'.heap.get? b = some o) → (∃ o, s'.heap.get? 87 = some o ∧ TabO s'.heap o) → R (.ok (.ret (.int (k + (lenSum items : Int)) t))) s') :
    codeAny (model prog w) A (.call (.ref 92) ⟨[.ref x], []⟩) R s := by
  obtain ⟨fa, hb⟩ := fnAt_of pf.X pf.nl (fnB_len _)
  refine enter_fnB (n := 5) (Z := [87]) (Xc := [87]) (μ := [(87, TabO)]) (ρ := [(Str.ofString "self", V (.ref x))]) (binds := [(Str.ofString "self", .ref x)]) rm fa hb (binds_peek pf.X (fun _ => by kernel_rfl)) (by kernel_rfl) ?_ (by simp) (fun _ _ h => nomatch h) ?_ (by kernel_rfl) (by kernel_rfl) (by kernel_rfl) (by simp)
    (.cons rfl (flat_V _).mono .nil) ?_ (by simp) fun L s₁ E' hL rm' l₁ F sub => ?_
  · intro L y hy
    simp only [List.mem_cons, List.not_mem_nil, or_false] at hy
    subst hy
    exact .inl (by kernel_rfl)
  · intro z hz
    simp only [List.mem_cons, List.not_mem_nil, or_false] at hz
    subst hz
    obtain ⟨o, e, _⟩ := ht
    exact ⟨o, e⟩
  · intro p hp
    simp only [List.mem_cons, List.not_mem_nil, or_false] at hp
    subst hp
    obtain ⟨o, e, h⟩ := ht
    exact ⟨by simp, mono_TabO, o, e, h⟩
  have p1 := pf.sub sub
  have ge : GEnv (callEnvC (fdOf (KW w) 92) L 92) := ⟨by kernel_rfl, by kernel_rfl, by kernel_rfl⟩
  have hcode : (callEnvC (fdOf (KW w) 92) L 92).code = .ref 91 := by kernel_rfl
  refine wpAny_execs_cons (wpAny_Return_some ?_)
  show wpAny _ _ (do callWith _ (← eval _ _) [] (backTo _ (starEach [_, _] _)) []) _ _ _
  refine wpAny_bind (wp_ev (h := s₁.heap) (n := 5) (Z := []) (S := V (.builtin "sum")) (by walk_at "ev") rm' (Sub.refl _) fun u s₂ k₂ e2 => ?_)
  cases e2
  refine Calls.callWith_builtin (by rfl) (evalArgs_any (by rfl) (spliced_more ?_ (by rfl)))
  -- the generator
  refine wpAny_GeneratorExp_walksQTD rm'.hh (by rfl) (closureFor_is (fun y hy hf => ?_)) (by decide +kernel) (by decide +kernel) (by decide +kernel) (by decide +kernel) (by decide +kernel) (by rfl) (by have := rm'.depth; show _ < 1000; lia) ?_ (fun _ => rfl)
  · exfalso
    revert y
    decide +kernel
  have p2 := p1.sub (ksub k₂)
  refine wp_ev (h := s₁.heap) (n := 5) (Z := []) (S := V (.ref x)) (by walk_at "ev") rm' (ksub k₂) fun u s₃ k₃ e3 => ?_
  cases e3
  have p3 := p2.sub (ksub k₃)
  have k03 := sub.trans ((ksub k₂).trans (ksub k₃))
  have a3 := a.sub k03
  have F3 := (F.keep (ksub k₂)).keep (ksub k₃)
  have ht3 : ∃ o, s₃.heap.get? 87 = some o ∧ TabO s₃.heap o := let ⟨o, e, h⟩ := ht; ⟨o, k03 _ _ e, h⟩
  have hx97 : x ≠ 87 := by
    rintro rfl
    obtain ⟨o, e, ps, hd, _⟩ := ht
    rw [a.at_] at e; cases e; cases hd
  have hxlt : x < s₃.heap.objs.size := Heap.lt_size a3.at_
  have h97lt : 87 < s₃.heap.objs.size := by obtain ⟨o, e, _⟩ := ht3; exact Heap.lt_size e
  -- the items
  have hlen : xs.size = items.length := by have := hp.length; simp at this; lia
  obtain ⟨T, hT⟩ := Classical.axiomOfChoice (r := fun (j : Nat) (y : Addr × Value × Value) => j < xs.size → xs[j]? = some (.ref y.1) ∧ s.heap.IsTuple y.1 #[y.2.1, y.2.2] ∧ ∃ p, items[j]? = some p ∧ Tl p.1 s.heap y.2.1 ∧ Tl p.2 s.heap y.2.2) (fun j => by
    by_cases hj : j < xs.size
    · have h1 : xs.toList[j]? = some xs[j] := by simp [hj]
      obtain ⟨p, hp1, ta, va, vb, e1, e2, e3, e4⟩ := paired_get hp h1
      exact ⟨(ta, va, vb), fun _ => ⟨by simp [hj, e1], e2, p, hp1, e3, e4⟩⟩
    · exact ⟨(0, .none, .none), fun h => absurd h hj⟩)
  have hT97 : ∀ j, j < xs.size → (T j).1 ≠ 87 := fun j hj e => by
    obtain ⟨o1, e1, c1, n1, d1⟩ := (hT j hj).2.1
    obtain ⟨o, e2, ps, hd, _⟩ := ht
    rw [e, e2] at e1; cases e1; rw [hd] at d1; cases d1
  have hTlt : ∀ j, j < xs.size → (T j).1 < s₃.heap.objs.size := fun j hj => by
    obtain ⟨o1, e1, _⟩ := (hT j hj).2.1
    exact Heap.lt_size (k03 _ _ e1)
  refine pyIter_acc p3.X a3 ⟨(p3.nl.keeps fun b o e => Heap.get?_push_of_some _ e), ?_⟩
  generalize hI : s₃.heap.objs.size = J at *
  obtain ⟨ps, hc3, htb3⟩ := isCode97 p3.X ht3
  refine genexpr_tab hcode (hc3.push _) (htb3.push _) fun code h₄ tk₄ ps' hx₄ hc₄ htb₄ => ?_
  have k34 : ∀ b o, b ≠ 87 → s₃.heap.get? b = some o → h₄.get? b = some o := fun b o hb e => hx₄ b o hb (Heap.get?_push_of_some _ e)
  have p4 : PF (KW w) h₄ := p3.butTab ht3 k34
  have b4 : BM h₄ := (bm.sub k03).butTab ht3 k34
  obtain ⟨mg, bmo, ob, M⟩ := id b4
  refine wpAny_builtinsFor (by rw [ge.g]; exact M.ns) M.name M.ne M.obj M.cls M.dict M.data ?_
  have hIlt : J < h₄.objs.size := by
    have : (s₃.heap.push { cls := .type "list_iterator", data := .fields #[.ref x, .int 0 0] }).get? J = some { cls := .type "list_iterator", data := .fields #[.ref x, .int 0 0] } := hI ▸ Heap.get?_push_size _ rfl
    exact Heap.lt_size (hx₄ _ _ (by lia : J ≠ 87) this)
  have hCge : J < h₄.objs.size := hIlt
  have hxI : x ≠ J := Nat.ne_of_lt hxlt
  have hTI : ∀ j, j < xs.size → (T j).1 ≠ J := fun j hj => Nat.ne_of_lt (hTlt j hj)
  generalize hval : (fun (j : Nat) => (match items[j]? with | some p => ((p.1.length + p.2.length : Nat) : Int) | none => 0)) = val
  have hv : ∀ i p, items[i]? = some p → val i = ((p.1.length + p.2.length : Nat) : Int) := fun i p e => by rw [← hval]; simp only [e]
  have hpass : passing (fun _ => true) xs.size 0 = List.range xs.size := by simp [passing]
  have hit₄ : h₄.IsListIter J x 0 := ⟨_, hx₄ _ _ (by lia : J ≠ 87) (hI ▸ Heap.get?_push_size _ rfl), rfl, rfl⟩
  have hseq₄ : SeqAt h₄ x xs := ⟨_, _, k34 _ _ hx97 a3.at_, rfl⟩
  have htup : ∀ j, j < xs.size → h₄.IsTuple (T j).1 #[(T j).2.1, (T j).2.2] := fun j hj => by
    obtain ⟨o1, e1, r1⟩ := (hT j hj).2.1
    exact ⟨o1, k34 _ _ (hT97 j hj) (k03 _ _ e1), r1⟩
  have base : ∀ {h' : Heap}, (∀ b ∈ List.range h₄.objs.size, b ∉ [J] → ∀ o, h₄.get? b = some o → h'.get? b = some o) → PF (KW w) h' := fun k => p3.butTab ht3 fun b o hb e => by
    have e4 := k34 b o hb e
    refine k b (List.mem_range.mpr (Heap.lt_size e4)) (fun m => ?_) o e4
    simp only [List.mem_cons, List.not_mem_nil, or_false] at m
    subst m
    have h9 := Heap.lt_size e
    rw [hI] at h9
    exact Nat.lt_irrefl _ h9
  refine ⟨J, J :: x :: (List.range xs.size).map (fun j => (T j).1), [J], xs.size, _, _, _, fun _ => true, fun i y => ∃ t, y = .int (val i) t, rfl,
    (fun A' hA => walksU_seq hA J x hxI xs (fun j => (T j).1) (fun j => #[(T j).2.1, (T j).2.2]) (fun j hj => (hT j hj).1) hTI), (fun i v hv => ⟨_, _, hv.2⟩), ⟨hit₄, hseq₄, htup⟩, (fun b hb => ?_), p4.nl, (fun hm => ?_), (fun href hr => ⟨fun A' E' i va vb s₂ m₂ hA hD hU hPt hns hma hmb hk => wpAny_pure ⟨rfl, keeps_refl _⟩, fun A' E' i va vb s₂ m₂ hA hD hU hPt _ hns hma hmb hk => ?_⟩), fun ga h₅ tk₅ gs hgb hag hsz₅ hk₅ W hat => ?_⟩
  · rcases List.mem_cons.mp hb with rfl | hb
    · exact hIlt
    · rcases List.mem_cons.mp hb with rfl | hb
      · exact Heap.lt_size (k34 _ _ hx97 a3.at_)
      · obtain ⟨j, hj, rfl⟩ := List.mem_map.mp hb
        obtain ⟨o1, e1, _⟩ := htup j (List.mem_range.mp hj)
        exact Heap.lt_size e1
  · simp only [List.mem_cons, List.not_mem_nil, or_false] at hm
    obtain ⟨mc, hns, _⟩ := p3.nl
    have h9 := hns.lt
    rw [hI, hm] at h9
    exact Nat.lt_irrefl _ h9
  · -- an item's sizes
    have hi := hPt.1
    obtain ⟨e1, e2⟩ : va = (T i).2.1 ∧ vb = (T i).2.2 := by simpa using congrArg Array.toList hPt.2
    obtain ⟨pp, hpp, h1, h2⟩ := (hT i hi).2.2
    have p5 : PF (KW w) s₂.heap := base fun b hb hn o e => hk b hb hn o (hr b o e)
    have hml := hm pp (List.mem_of_getElem? hpp)
    rw [hv i pp hpp]
    have L2 : Loc (genEnv { kind := .function, names := [(Str.ofString ".0", .local), (Str.ofString "fws", .local), (Str.ofString "part", .local), (Str.ofString "len", .globalImplicit)], isGenerator := true, isCoroutine := false } (clFold (callEnvC (fdOf (KW w) 92) L 92).cells [(Str.ofString ".0", .local), (Str.ofString "fws", .local), (Str.ofString "part", .local), (Str.ofString "len", .globalImplicit)] []) h₄.objs.size code builtinsNs (callEnvC (fdOf (KW w) 92) L 92)) [] [(Str.ofString "fws", Tl pp.1), (Str.ofString "part", Tl pp.2)] s₂.heap :=
      loc_of (m := m₂) rfl hns _ fun p hp => by
        simp only [List.mem_cons, List.not_mem_nil, or_false] at hp
        rcases hp with rfl | rfl
        · exact ⟨by kernel_rfl, ⟨va, hma, by rw [e1]; exact h1⟩, mono_Tl _⟩
        · exact ⟨by kernel_rfl, ⟨vb, hmb, by rw [e2]; exact h2⟩, mono_Tl _⟩
    have ge2 : GEnv (genEnv { kind := .function, names := [(Str.ofString ".0", .local), (Str.ofString "fws", .local), (Str.ofString "part", .local), (Str.ofString "len", .globalImplicit)], isGenerator := true, isCoroutine := false } (clFold (callEnvC (fdOf (KW w) 92) L 92).cells [(Str.ofString ".0", .local), (Str.ofString "fws", .local), (Str.ofString "part", .local), (Str.ofString "len", .globalImplicit)] []) h₄.objs.size code builtinsNs (callEnvC (fdOf (KW w) 92) L 92)) := ⟨rfl, ge.g, rfl⟩
    refine wp_ev (h := s₂.heap) (n := 3) (Z := []) (S := I ((pp.1.length : Nat) + (pp.2.length : Nat))) ?_ ⟨hA, ?_, ?_⟩ (Sub.refl _) fun v s₃ k₃ hv => ?_
    · exact ev_binr (ev_call1 rfl rfl (by walk_at "ev") (by walk_at "cw") (ev_var L2 (by walk_at "lk") (by simp) (by decide +kernel)) (mono_Tl _) (call_lentl (by lia))) (ev_call1 rfl rfl (by walk_at "ev") (by walk_at "cw") (ev_var L2 (by walk_at "lk") (by simp) (by decide +kernel)) (mono_Tl _) (call_lentl (by lia))) (mono_I _) bin_add
    · have := rm'.depth; lia
    · have := rm'.units; lia
    · obtain ⟨tv, rfl⟩ := hv
      exact ⟨⟨tv, rfl⟩, k₃⟩
  -- the first size
  have p5 : PF (KW w) h₅ := p4.sub hk₅
  have k35 : ∀ b o, b ≠ 87 → s₃.heap.get? b = some o → h₅.get? b = some o := fun b o hb e => hk₅ _ _ (k34 b o hb e)
  obtain ⟨o97, e97, t97⟩ := isCode_tab hc₄ htb₄
  have F5 := F3.turn (h' := h₅) k35 mono_TabO (hk₅ _ _ e97) t97
  have a5 : AccAt (KW w) h₅ x d xs nn k := ⟨k35 _ _ hx97 a3.at_, let ⟨od, v, e, r⟩ := a3.size; ⟨od, v, k35 _ _ (by
    rintro rfl
    obtain ⟨o, e2, ps, hd, _⟩ := ht3
    rw [e2] at e; cases e
    obtain ⟨lk, _⟩ := r
    unfold lookIn at lk
    rw [hd] at lk; cases lk) e, r⟩⟩
  refine spliced_more ?_ (by rfl)
  refine wpAny_with_toks (Nat.le_refl _) ?_
  rw [arm_eval_Attribute]
  refine wpAny_bind ?_
  show wpAny _ _ (eval (.Name _ _) _) _ _ _
  refine wp_ev (h := h₅) (n := 5) (Z := []) (S := V (.ref x)) (ev_var F5.loc lk_here (by simp) (by decide +kernel)) rm' (Sub.refl _) fun u s₆ k₆ e6 => ?_
  cases e6
  refine wpAny_bind (wpAny_standAt (wpAny_bind (wpAny_holding (get_size (p5.sub (ksub k₆)).X (a5.sub (ksub k₆)) fun t => ?_))))
  refine wpAny_bind (wpAny_letTemporaryGo (wpAny_pure fun htk => ?_))
  refine Calls.spliced_nil ?_
  refine call_sum2 (c := k) ⟨by lia, by lia⟩ ?_
  obtain ⟨h₆, tk₆, rfl, kk6⟩ := k₆
  have W1 := W.in4_1
  have st := W.frame 0 _ h₆ (tk₆ + 1) hat htk (fun b hb o e => kk6 b o e)
  have hga : ga < h₆.objs.size := by
    obtain ⟨⟨_, _, _, eo, _⟩, _⟩ := hat
    exact Heap.lt_size (kk6 _ _ eo)
  have hP : preSum val (passing (fun _ => true) xs.size 0).length = (lenSum items : Int) := by
    rw [hpass, List.length_range, hlen, lenSum_pre items val hv _ (Nat.le_refl _), List.take_length]
  refine W1.self 0 _ _ _ st ⟨ga, _, _, _, _, _, _, val, rfl, W1, st, fun b hb => ?_, fun i v hv' => ?_, fun j hj => ?_, fun s' t' hm => ?_⟩
  · show b < h₆.objs.size
    rcases List.mem_cons.mp hb with rfl | hb
    · exact hga
    · rcases List.mem_cons.mp hb with rfl | hb
      · exact Nat.lt_trans hag hga
      · exact Nat.lt_trans (Nat.lt_trans (List.mem_range.mp hb) hag) hga
  · obtain ⟨i', hi', t2, rfl⟩ := hv'
    rw [hpass] at hi'
    have : i' = i := by
      obtain ⟨h1, h2⟩ := List.getElem?_eq_some_iff.mp hi'
      simpa using h2.symm
    subst this
    exact ⟨t2, rfl⟩
  · rw [hpass, List.length_range, hlen] at hj
    have h1 : items[j]? = some items[j] := List.getElem?_eq_getElem hj
    rw [hv j _ h1, lenSum_pre items val hv (j + 1) hj]
    have h2 := hm _ (List.getElem_mem hj)
    have h3 := lenSum_le (items := items.take (j + 1)) (m := m) fun p hp => hm p (List.mem_of_mem_take hp)
    have h4 : (items.take (j + 1)).length ≤ 900 := by rw [List.length_take]; lia
    have h5 : (items.take (j + 1)).length * m ≤ 900 * 1000000 := Nat.mul_le_mul h4 hmm
    unfold InLong
    lia
  · rw [hP]
    have kk : ∀ b o, b ≠ 87 → s.heap.get? b = some o → s'.heap.get? b = some o := fun b o hb e => by
      have e3 := k03 b o e
      refine hm.heap b o (fun hmem => ?_) (kk6 _ _ (k35 b o hb e3))
      have h9 := Heap.lt_size e3
      rw [hI] at h9
      simp only [List.mem_cons, List.not_mem_nil, or_false] at hmem
      rcases hmem with rfl | rfl
      · exact Nat.lt_irrefl _ (Nat.lt_trans h9 hIlt)
      · exact Nat.lt_irrefl _ h9
    refine q s' t' ?_ kk ⟨o97, ?_, t97⟩
    · obtain ⟨_, _, rfl⟩ := l₁
      obtain ⟨_, _, rfl, _⟩ := k₂
      obtain ⟨_, _, rfl, _⟩ := k₃
      refine ⟨hm.drawn, hm.os, fun hg => AllBare.movedS ?_ hm⟩
      exact AllBare.push hg hgb
    · refine hm.heap 87 o97 (fun hmem => ?_) (kk6 _ _ (hk₅ _ _ e97))
      simp only [List.mem_cons, List.not_mem_nil, or_false] at hmem
      rcases hmem with h | h
      · have h9 : (87 : Nat) = h₄.objs.size := h
        have h10 : (87 : Nat) < h₄.objs.size := Heap.lt_size e97
        lia
      · have h9 : (87 : Nat) = J := h
        lia
end
end
end
section
open PySem PySem.W PyProof.Rows
set_option Elab.async false
set_option maxRecDepth 100000
set_option linter.unusedVariables false
set_option maxHeartbeats 4000000
section
variable {prog : Program} {w : World} {H : Heap} {env : Env} {X Z : List Addr} {μ : List (Addr × MSp)} {ρ : List (Str × Sp)} {h h' : Heap} {A : Around} {E : Value → Shared → Prop} {s : Shared} {n : Nat}


/-- the loop; generators may be made in it -/
theorem bl_forG {α : Type} {R : α → Sp} {xs : List α} {S : Sp} {μ : Nat → List (Addr × MSp)} {ρ : Nat → List (Str × Sp)} {ρt : Nat → α → List (Str × Sp)} {target iter : Expr} {body rest : List Stmt} {pos : Pos} {Q : Flow → Shared → Prop}
    (F : Fm H env X Z (μ 0) (ρ 0) s.heap) (rm : Rm n A) (ev : EV prog w n Z env s.heap iter S) (it : Itr prog w R xs S) (mR : ∀ a, Mono (R a)) (hs : ∀ x, foldedSetIterable iter env x = pure x) (hmu : ∀ i, (μ i).map (·.1) = (μ 0).map (·.1))
    (tgt : ∀ (i : Nat) a u I P H' s' E', xs[i]? = some a → R a (hid (I :: Z) s'.heap) u → Sub H H' → Fm H' env (I :: X) (I :: Z) ((I, P) :: μ i) (ρ i) s'.heap →
      wpAny (model prog w) A (assign target env u) (fun _ s'' => LikeG s' s'' ∧ Fm H' env (I :: X) (I :: Z) ((I, P) :: μ i) (ρt i a) s''.heap) E' s')
    (turn : ∀ (i : Nat) a I P H' s' E', xs[i]? = some a → Sub H H' → LikeG s s' → Fm H' env (I :: X) (I :: Z) ((I, P) :: μ i) (ρt i a) s'.heap →
      wpAny (model prog w) A (execs body env) (fun f s'' => (f = .next ∨ f = .cont) ∧ LikeG s' s'' ∧ Fm H' env (I :: X) (I :: Z) ((I, P) :: μ (i + 1)) (ρ (i + 1)) s''.heap) E' s')
    (q : ∀ s', LikeG s s' → Fm H env X Z (μ xs.length) (ρ xs.length) s'.heap → wpAny (model prog w) A (execs rest env) Q E s') :
    wpAny (model prog w) A (execs (.For target iter body [] pos :: rest) env) Q E s :=
  bl_forK Like.g LikeG.trans F rm ev it mR hs hmu tgt turn q
end
end
section
open PySem PySem.W PyProof.Rows
set_option Elab.async false
set_option maxRecDepth 100000
set_option linter.unusedVariables false
set_option maxHeartbeats 4000000
noncomputable section
/-- an accumulator's items; its dict is owned apart -/
noncomputable def AccP (d : Addr) {α : Type} (R : α → Sp) (items : List α) : MSp := fun h o => ∃ xs n, o = accObj d xs n ∧ Paired (fun p v => R p h v) items xs.toList
noncomputable def SzO (k : Int) : MSp := fun _ o => ∃ H kt t, o = { cls := .type "dict", data := .dict #[⟨H, .str "_initial_size" kt, .int k t⟩] 1 }
theorem mono_AccP {d : Addr} {α : Type} {R : α → Sp} (mR : ∀ a, Mono (R a)) (items : List α) : MonoM (AccP d R items) := fun h h' o kk ⟨xs, n, e, p⟩ => ⟨xs, n, e, paired_imp (fun a v r => mR a _ _ _ kk r) p⟩
theorem mono_SzO (k : Int) : MonoM (SzO k) := fun _ _ _ _ x => x
theorem szO_sizeD {d : Addr} {k : Int} {h : Heap} {od : Obj} (e : h.get? d = some od) {hz : Heap} (c : SzO k hz od) : SizeD d k h := by
  obtain ⟨H, kt, t, rfl⟩ := c
  refine ⟨_, .int k t, e, rfl, ⟨t, rfl⟩, ?_, H, kt, rfl⟩
  intro name hn
  simp only [List.mem_cons, List.not_mem_nil, or_false] at hn
  rcases hn with rfl | rfl | rfl | rfl | rfl <;> rfl
theorem sizeD_szO {d : Addr} {k : Int} {h hz : Heap} (c : SizeD d k h) : ∃ od, h.get? d = some od ∧ SzO k hz od := by
  obtain ⟨od, v, e, _, ⟨t, rfl⟩, _, H, kt, ho⟩ := c
  exact ⟨od, e, H, kt, t, ho⟩
section
variable {prog : Program} {w : World} {A : Around} {E : Value → Shared → Prop} {s : Shared} {x d b f : Addr} {xs : Array Value} {n nn : Nat} {k : Int} {env : Env} {body : List Stmt} {X Z Z0 Z1 : List Addr} {h h' H : Heap} {μ : List (Addr × MSp)} {ρ : List (Str × Sp)} {P P' : MSp}
theorem accAt_of {α : Type} {R : α → Sp} {items : List α} {o od : Obj} {hz : Heap} (e : h.get? x = some o) (c : AccP d R items hz o) (ed : h.get? d = some od) (cd : SzO k hz od) : ∃ xs n, AccAt (KW w) h x d xs n k ∧ Paired (fun p v => R p hz v) items xs.toList := by
  obtain ⟨xs, n, rfl, p⟩ := c
  exact ⟨xs, n, ⟨e, szO_sizeD ed cd⟩, p⟩
/-- two new addresses are hidden -/
theorem Fm.hide2 (F : Fm H env X Z μ ρ h) (k : Sub h h') {a b : Addr} (ha : h.get? a = none) (ha' : ∃ o, h'.get? a = some o) (hb : h.get? b = none) (hb' : ∃ o, h'.get? b = some o) : Fm H env (a :: b :: X) (a :: b :: Z) μ ρ h' := by
  have kz : Sub (hid Z h) (hid (a :: b :: Z) h') := fun c o e => by
    have e1 := hid_sub Z h c o e
    refine hid_get (k _ _ e1) fun hm => ?_
    rcases List.mem_cons.mp hm with q | hm
    · rw [q, ha] at e1; cases e1
    · rcases List.mem_cons.mp hm with q | q
      · rw [q, hb] at e1; cases e1
      · rw [hid_none q] at e; cases e
  have none_of : ∀ {c : Addr}, h.get? c = none → H.get? c = none := fun {c} hc => by
    cases e : H.get? c with
    | none => rfl
    | some o => have := F.sub _ _ e; rw [hc] at this; cases this
  exact {
    kind := F.kind
    sub := F.sub.trans k
    zz := fun z m => by
      rcases List.mem_cons.mp m with q | m
      · exact none_of (q ▸ ha)
      · rcases List.mem_cons.mp m with q | q
        · exact none_of (q ▸ hb)
        · exact F.zz z q
    xz := fun z m => by
      rcases List.mem_cons.mp m with q | m
      · exact q ▸ List.mem_cons_self
      · rcases List.mem_cons.mp m with q | q
        · exact .tail _ (q ▸ List.mem_cons_self)
        · exact .tail _ (.tail _ (F.xz z q))
    ns := let ⟨m, y⟩ := F.ns; ⟨m, y.keeps k⟩
    cells := fun x c e e' => let ⟨⟨v, y⟩, z⟩ := F.cells x c e e'; ⟨⟨v, y.keeps k⟩, .tail _ (.tail _ z)⟩
    apart := F.apart
    alive := fun x c e => let ⟨o, y⟩ := F.alive x c e; ⟨o, k _ _ y⟩
    L := .tail _ (.tail _ F.L)
    vars := fun x S e => let ⟨m, f, v, a, b⟩ := F.vars x S e; ⟨m, f, v, a.sub k, m _ _ _ kz b⟩
    own := fun p hp => let ⟨a, b, c, d, o, e, f⟩ := F.own p hp; ⟨.tail _ (.tail _ a), b, c, d, o, k _ _ e, b _ _ _ kz f⟩
    nodup := F.nodup
    live := fun z m => by
      rcases List.mem_cons.mp m with q | m
      · exact q ▸ ha'
      · rcases List.mem_cons.mp m with q | q
        · exact q ▸ hb'
        · obtain ⟨o, e⟩ := F.live z q; exact ⟨o, k _ _ e⟩ }
/-- y = _Accumulator(e) -/
theorem bl_newP {α : Type} {R : α → Sp} {y : Str} {py pf' pos spos : Pos} {e : Expr} {i : Int} {rest : List Stmt} {Q : Flow → Shared → Prop} (F : Fm H env X Z μ ρ s.heap) (rm : Rm n A) (hn : 5 ≤ n) (ph : PH prog) (pf : PF (KW w) H) (ge : GEnv env)
    (hg : env.kindOf (Str.ofString "_Accumulator") = some .globalImplicit) (isn : IsN env (.Name (Str.ofString "_Accumulator") pf') [e] pos) (ht : backTo pos (starEach [e] env) = [(false, eval e env)]) (ev : EV prog w n [] env s.heap e (I i)) (mR : ∀ a, Mono (R a)) (hy : Stores env y)
    (sw : swapsWith (.Call (.Name (Str.ofString "_Accumulator") pf') [e] [] pos) (some (.Name y py)) spos.line env = pure false)
    (q : ∀ x d s', Like s s' → x ∉ Z → d ∉ Z → Fm H env (x :: d :: X) (x :: d :: Z) ((x, AccP d R []) :: (d, SzO i) :: μ) ((y, V (.ref x)) :: ρ) s'.heap → wpAny (model prog w) A (execs rest env) Q E s') :
    wpAny (model prog w) A (execs (.Assign [.Name y py] (.Call (.Name (Str.ofString "_Accumulator") pf') [e] [] pos) spos :: rest) env) Q E s := by
  refine wpAny_execs_cons (wpAny_Assign_Name ?_ sw)
  rw [isn]
  have p0 := pf.sub F.sub
  refine wpAny_bind (wp_ev (h := s.heap) (n := n) (Z := []) (ev_glob ge (gn_acc p0) hg (by decide +kernel)) rm (Sub.refl _) fun u s₁ k₁ e1 => ?_)
  cases e1
  refine cw_acc (p0.sub (ksub k₁)) A s₁ E _ pos [] _ (Sub.refl _) (by rw [ht]; rfl) (wp_spl1 (n := n) (h := s.heap) (Z := []) ht ev (mono_I _) rm (ksub k₁) fun v s₂ k₂ hv => ⟨ksub k₂, ?_⟩)
  obtain ⟨t, rfl⟩ := hv
  have F₂ := (F.keep (ksub k₁)).keep (ksub k₂)
  refine call_acc ph (pf.sub F₂.sub) (rm.le hn) fun x d s₃ n' k₃ hx0 a hd0 => ?_
  obtain ⟨od, ed, cd⟩ := sizeD_szO (hz := hid (x :: d :: Z) s₃.heap) a.size
  have F₃ : Fm H env (x :: d :: X) (x :: d :: Z) μ ρ s₃.heap := F₂.hide2 (ksub k₃) hx0 ⟨_, a.at_⟩ hd0 ⟨_, ed⟩
  have F₄ := F₃.take (z := d) (.tail _ (.head _)) (F₂.fresh_apart hd0) (F₂.fresh_own hd0) (mono_SzO i) ed cd
  have hxo : x ∉ (((d, SzO i) :: μ).map (·.1)) := fun m => by
    rcases List.mem_cons.mp m with q | q
    · exact a.ne q.symm
    · exact F₂.fresh_own hx0 q
  have F₅ := F₄.take (z := x) (.head _) (F₂.fresh_apart hx0) hxo (mono_AccP mR []) a.at_ ⟨_, _, rfl, .nil⟩
  have nz : ∀ {c : Addr}, s₂.heap.get? c = none → c ∉ Z := fun {c} hc m => by obtain ⟨o, e⟩ := F₂.live c m; rw [hc] at e; cases e
  exact st_name F₅ (flat_V _).mono rfl hy fun s₄ l₄ F₆ => q x d s₄ (((klike k₁).trans (klike k₂)).trans ((klike k₃).trans l₄)) (nz hx0) (nz hd0) F₆
/-- what both say -/
theorem Fm.acc {α : Type} {R : α → Sp} {items : List α} (F : Fm H env X Z ((x, AccP d R items) :: (d, SzO k) :: μ) ρ h) : ∃ xs n, AccAt (KW w) h x d xs n k ∧ Paired (fun p v => R p (hid Z h) v) items xs.toList := by
  obtain ⟨_, _, _, o, e, c⟩ := F.head
  obtain ⟨_, _, _, od, ed, cd⟩ := F.leave.head
  exact accAt_of e c ed cd
/-- pile.push(a, b) -/
theorem bl_pushP {α β : Type} {Ra : α → Sp} {Rb : β → Sp} {items : List (α × β)} {a : α} {b : β} {o e1 e2 : Expr} {apos pos spos : Pos} {rest : List Stmt} {Q : Flow → Shared → Prop} (F : Fm H env X Z ((x, AccP d (T2 Ra Rb) items) :: (d, SzO k) :: μ) ρ s.heap) (rm : Rm n A) (hn : 3 ≤ n) (pf : PF (KW w) H)
    (he : IsM env o "push" apos [e1, e2] pos) (ht : backTo pos (starEach [e1, e2] env) = [(false, eval e1 env), (false, eval e2 env)]) (hi : interactive env = false) (sw : swapsWith (.Call (.Attribute o "push" apos) [e1, e2] [] pos) none spos.line env = pure false) (hl : items.length ≤ 900)
    (eo : EV prog w n [] env s.heap o (V (.ref x))) (ev1 : EV prog w n Z env s.heap e1 (Ra a)) (ev2 : EV prog w n Z env s.heap e2 (Rb b)) (mA : ∀ a, Mono (Ra a)) (mB : ∀ b, Mono (Rb b))
    (q : ∀ s', Like s s' → Fm H env X Z ((x, AccP d (T2 Ra Rb) (items ++ [(a, b)])) :: (d, SzO k) :: μ) ρ s'.heap → wpAny (model prog w) A (execs rest env) Q E s') :
    wpAny (model prog w) A (execs (.Expr (.Call (.Attribute o "push" apos) [e1, e2] [] pos) spos :: rest) env) Q E s := by
  refine wpAny_execs_cons (wpAny_Expr_any ?_ hi sw)
  refine wp_meth he (wp_ev (h := s.heap) (n := n) (Z := []) eo rm (Sub.refl _) fun ov s₁ k₁ e => ?_)
  cases e
  have F₁ := F.keep (ksub k₁)
  obtain ⟨xs1, n1, a1, _⟩ := F₁.acc (w := w)
  have p1 := pf.sub F₁.sub
  refine gm_acc p1.X a1 (acc_push _) (acc_fn79 _) (by decide +kernel) ?_
  obtain ⟨⟨of, hof, hd⟩, _⟩ := (fnAt_of p1.X p1.nl (fnB_push w.params)).1
  refine cw_fn (h := s₁.heap) hof hd A s₁ E _ pos [.ref x] _ (Sub.refl _) (by rw [ht]; rfl) (wp_spl2 (n := n) (h := s.heap) (Z := Z) ht ev1 (mA a) ev2 (mB b) rm (ksub k₁) fun v u s₂ k₂ hv hu => ⟨ksub k₂, ?_⟩)
  have F₂ := F₁.keep (ksub k₂)
  obtain ⟨xs2, n2, a2, hp2⟩ := F₂.acc (w := w)
  have hs2 : xs2.size = items.length := by have := hp2.length; simp at this; lia
  refine wpAny_call (mc_push (pf.sub F₂.sub) (rm.le hn) a2 (by lia) F₂.live F₂.xZ (mA a) (mB b) hv hu fun s₃ n' y af a3 hy => ?_)
  have c3 : AccP d (T2 Ra Rb) (items ++ [(a, b)]) (hid Z s₃.heap) (accObj d (xs2.push y) n') := by
    refine ⟨_, _, rfl, ?_⟩
    rw [Array.toList_push]
    exact paired_append (paired_imp (fun p v r => mono_T2 mA mB p _ _ _ (after_hid af F₂.xZ) r) hp2) (.cons hy .nil)
  exact q s₃ (((klike k₁).trans (klike k₂)).trans af.like) (F₂.turn af.keep (mono_AccP (mono_T2 mA mB) _) a3.at_ c3)
end
end
end
section
open PySem PySem.W PyProof.Rows
set_option Elab.async false
set_option maxRecDepth 100000
set_option linter.unusedVariables false
set_option maxHeartbeats 4000000
noncomputable section
noncomputable abbrev szObj (H : Int) (kt : Tok) (v : Value) : Obj := { cls := .type "dict", data := .dict #[⟨H, .str "_initial_size" kt, v⟩] 1 }
section
variable {prog : Program} {w : World} {A : Around} {E : Value → Shared → Prop} {s : Shared} {x d : Addr} {xs : Array Value} {n nn : Nat} {k : Int}
theorem setsl_all {od' : Option Addr} {osl' : Array (Option Value)} {sl l : Addr} {ol : Nat} {ys : Array Value} {Q : Value → Shared → Prop} (X : (KW w).In s.heap) (a : AccAt (KW w) s.heap x d xs n k) (hs : xs.size ≤ 1000) (hsl : s.heap.get? sl = some ⟨.type "slice", od', .fields #[.none, .none, .none], osl'⟩)
    (hl : s.heap.get? l = some { cls := .type "list", data := .seq ys ol }) (hlx : l ≠ x) (hy : ys.size ≤ 1000)
    (q : ∀ f, f xs = ys → Q .none { s with heap := turned s.heap x f }) : wpAny (model prog w) A (call (.builtin "list.__setitem__") [.ref x, .ref sl, .ref l]) Q E s := by
  refine call_bi (owner := "list") (nm := "__setitem__") (by decide +kernel) (by first | exact .inl (by decide +kernel) | exact .inr (by decide +kernel)) (by decide +kernel) (acc_inst X a (.inl rfl)) entry_list_setitem (args_list_setitem _ _ _) ?_
  have ho := a.at_
  obtain ⟨hh, g, dr, tk, os⟩ := s
  unfold Builtin.«list.__setitem__»
  dsimp only at ho hsl hl
  have n1 := looks_noIndex (M := model prog w) hsl rfl
  have f0 := looks_field (M := model prog w) hsl 0 (v := .none) rfl
  have f1 := looks_field (M := model prog w) hsl 1 (v := .none) rfl
  have f2 := looks_field (M := model prog w) hsl 2 (v := .none) rfl
  have t1 : Looks (model prog w) hh (typeOf (.ref sl)) (.type "slice") := (Looks.ld hsl).andThen .now
  have t2 : Looks (model prog w) hh (typeOf (.ref l)) (.type "list") := (Looks.ld hl).andThen .now
  have e1 : (x == l) = false := by simpa using fun q : x = l => hlx q.symm
  have e2 : Builtin.List.listTooLong (xs.size + ys.size) = false := by simp [Builtin.List.listTooLong, sizeLine_eq]; lia
  unfold Builtin.List.listSubscript? Builtin.List.listSliceParts Builtin.List.listSameRef Builtin.List.listAllItems
  repeat lk
  simp only [e1, Bool.false_eq_true, if_false]
  repeat lk
  simp only [e2, Bool.false_eq_true, if_false]
  repeat lk
  refine wpAny_update ho ?_
  refine wpAny_lookBehind (o := Obj.mapSeq _ (accObj d xs n)) (Heap.get?_update_self _ ho rfl) (pastItsLine_seq ?_) ?_
  · rw [sizeLine_eq]; simp; lia
  · refine wpAny_bind (wpAny_letGo (wpAny_pure (q _ ?_)))
    simp
theorem si_all {od' : Option Addr} {osl' : Array (Option Value)} {sl l : Addr} {ol : Nat} {ys : Array Value} {Q : Unit → Shared → Prop} (X : (KW w).In s.heap) (a : AccAt (KW w) s.heap x d xs n k) (hs : xs.size ≤ 1000) (hsl : s.heap.get? sl = some ⟨.type "slice", od', .fields #[.none, .none, .none], osl'⟩)
    (hl : s.heap.get? l = some { cls := .type "list", data := .seq ys ol }) (hlx : l ≠ x) (hy : ys.size ≤ 1000)
    (q : ∀ f, f xs = ys → Q () { s with heap := turned s.heap x f }) : wpAny (model prog w) A (setItem (.ref x) (.ref sl) (.ref l)) Q E s := by
  obtain ⟨od, I, _⟩ := a.inst
  unfold setItem
  refine wpAny_holding (wpAny_bind (key_acc X a ?_))
  unfold callSpecial? specialOf
  refine wpAny_bind (wpAny_bind (wpAny_bind (I.type.here ((looks_findIn X (acc_si w.params)).here (wpAny_holding ?_)))))
  rw [slot_list_setitem.bind]
  refine wpAny_bind (wpAny_pure (wpAny_bind (setsl_all X a hs hsl hl hlx hy fun f hf => wpAny_pure (wpAny_pure (q f hf)))))
theorem putS (H0 H : Int) (kt tk : Tok) (v0 v : Value) : Obj.putName "_initial_size" H (.str "_initial_size" tk) v (szObj H0 kt v0) = szObj H0 kt v := rfl
theorem osa_set {R : Result → Shared → Prop} {v v0 : Value} {tk : Tok} {H0 : Int} {kt : Tok} (X : (KW w).In s.heap) (hx : s.heap.get? x = some (accObj d xs nn)) (hd : s.heap.get? d = some (szObj H0 kt v0))
    (q : R (.ok (.ret .none)) { s with heap := s.heap.update d (Obj.putName "_initial_size" (PyData.keyHash w.params "_initial_size") (.str "_initial_size" s.toks) v), toks := s.toks + 1 }) :
    codeAny (model prog w) A (.call (.builtin "object.__setattr__") ⟨[.ref x, .str "_initial_size" tk, v], []⟩) R s := by
  have SF := PySem.F.store_object
  have tX : Looks (model prog w) s.heap (typeOf (.ref x)) (.ref 125) := (Looks.ld hx).andThen .now
  have sub : Looks (model prog w) s.heap (isInstance (.ref x) (.type "object")) true := tX.andThen (looks_mroIn X (by kernel_rfl))
  refine codeAny_call_builtin SF.slot.plain SF.entry (@check_slot (model prog w) _ _ s "object.__setattr__" "object" "__setattr__" (.ref x) [.str "_initial_size" tk, v] [] _ SF.kind SF.split sub (SF.args (.ref x) (.str "_initial_size" tk) v) ?_)
  have hm : Looks (model prog w) s.heap (mroOf (.ref 125)) (accCd (KW w)).mro := (looks_clsIn X (acc_cd w.params)).andThen .now
  rw [acc_mro] at hm
  rw [osa_eq, refuse_eq]
  refine wpAny_bind (wpAny_bind (tX.here (wpAny_bind (hm.here ?_))))
  rw [refuseLoop_ref, refuse_list]
  refine wpAny_pure (wpAny_bind (tX.here (wpAny_bind ((looks_findIn X (acc_taker w.params)).here (wpAny_bind ?_)))))
  refine wpAny_pure ?_
  refine wpAny_bind (wpAny_pure (wpAny_bind (wpAny_bind (wpAny_loadPart hx (wpAny_bind ((looks_clsIn X (acc_cd w.params)).here ?_))))))
  rw [acc_hasDict]
  refine wpAny_pure (a := some d) (wpAny_bind (wpAny_pure (wpAny_bind ?_)))
  unfold nsSet
  refine wpAny_bind (wpAny_bind (wpAny_askSetting (wpAny_pure (wpAny_bind (wpAny_mkText (wpAny_bind (wpAny_loadPart hd ?_)))))))
  have c : aRefKeyMayBeTheName (Str.ofString "_initial_size") (#[⟨H0, .str "_initial_size" kt, v0⟩] : Array DictEntry) = false := by rw [aRefKeyMayBeTheName_at]; simp; intro _; rfl
  dsimp only
  rw [c]
  refine wpAny_updatePart hd ?_
  refine wpAny_bind (wpAny_lookBehind (Heap.get?_update_self _ hd (by rw [putS]; rfl)) ?_ ?_)
  · rw [putS]; exact pastItsLine_dict (by rw [sizeLine_eq]; exact Nat.le_of_ble_eq_true rfl)
  · exact wpAny_pure q
theorem cmp_isnone {n : Nat} {α : Type} {R : α → Sp} {ys : List α} : CmpR prog w n .Is (Ls R ys) No false := fun A s _ _ E v u _ ⟨a, vs, e, _⟩ e' => by
  have e2 : u = .none := e'
  subst e e2
  exact wpAny_pure ⟨keeps_refl s, rfl⟩
theorem fnB_reset (P : Params) : isFnB (K1 P) 107 = true := by kernel_rfl
theorem mc_reset {α : Type} {R0 : α → Sp} {new : List α} {v : Value} {R : Result → Shared → Prop} {H : Heap} {Z : List Addr} (pf0 : PF (KW w) H) (sH : Sub H s.heap) (hHx : H.get? x = none) (hHd : H.get? d = none) (rm : Rm 4 A) (zl : Zl s.heap Z) (hx : x ∈ Z) (hdz : d ∈ Z)
    (a : AccAt (KW w) s.heap x d xs nn k) (hs : xs.size ≤ 1000) (hv : Ls R0 new (hid Z s.heap) v) (hnl : new.length ≤ 1000) (mR : ∀ a, Mono (R0 a))
    (q : ∀ s' xs' n', Like s s' → (∀ b o, b ≠ x → b ≠ d → s.heap.get? b = some o → s'.heap.get? b = some o) → AccAt (KW w) s'.heap x d xs' n' 0 → Paired (fun p v => R0 p (hid Z s'.heap) v) new xs'.toList → R (.ok (.ret .none)) s') :
    codeAny (model prog w) A (.call (.ref 107) ⟨[.ref x, v], []⟩) R s := by
  have pf := pf0.sub sH
  obtain ⟨fa, hb⟩ := fnAt_of pf.X pf.nl (fnB_reset _)
  refine enter_fnB (n := 3) (Z := Z) (Xc := [x, d]) (μ := []) (ρ := [(Str.ofString "self", V (.ref x)), (Str.ofString "startval", Ls R0 new)]) (binds := [(Str.ofString "self", .ref x), (Str.ofString "startval", v)]) rm fa hb (binds_peek pf.X (fun _ => by kernel_rfl)) (by kernel_rfl) ?_ (by show [Str.ofString "self", Str.ofString "startval"].Nodup; decide +kernel) (fun _ _ h => nomatch h) zl (by kernel_rfl) (by kernel_rfl) (by kernel_rfl) (fun z hz => by
      simp only [List.mem_cons, List.not_mem_nil, or_false] at hz
      rcases hz with rfl | rfl <;> assumption)
    (.cons rfl (flat_V _).mono (.cons hv (mono_Ls mR _) .nil)) (by simp) (by simp) fun L s₁ E' hL rm' l₁ F sub => ?_
  · intro L y hy
    simp only [List.mem_cons, List.not_mem_nil, or_false] at hy
    rcases hy with rfl | rfl <;> exact .inl (by kernel_rfl)
  refine' bl_if_no rm' (evb_cmpr (Z1 := []) (Z2 := []) (S1 := Ls R0 new) (ev_var F.loc (lk_skip (by decide +kernel) lk_here) (by simp) (by decide +kernel)) ev_none (mono_Ls mR _) (by kernel_rfl) cmp_isnone) fun s₂ k₂ => ?_
  have F₂ := F.keep (ksub k₂)
  -- self[:] = startval
  refine wpAny_execs_cons (wpAny_Assign_Subscript ?_ (by kernel_rfl))
  refine wp_ev (h := s₂.heap) (n := 3) (Z := L :: (cellAddrs L (fdOf (KW w) 107).scope ++ Z)) (S := Ls R0 new) (ev_var F₂.loc (lk_skip (by decide +kernel) lk_here) (fun _ h => h) (by decide +kernel)) rm' (Sub.refl _) fun lv s₃ k₃ hl => ?_
  obtain ⟨l, ys, rfl, ⟨ln, hl⟩, hpl⟩ := hl
  have F₃ := F₂.keep (ksub k₃)
  refine wp_ev (h := s₃.heap) (n := 3) (Z := []) (S := V (.ref x)) (ev_var F₃.loc lk_here (by simp) (by decide +kernel)) rm' (Sub.refl _) fun ov s₄ k₄ e4 => ?_
  cases e4
  have F₄ := F₃.keep (ksub k₄)
  have esl : ∀ p1, EV prog w 3 [] (callEnvC (fdOf (KW w) 107) L 107) s₄.heap (.Slice none none none p1) (Sl none none none) := fun p1 => ev_slice (List.forall_mem_nil _) evp_none evp_none evp_none
  refine wp_ev (h := s₄.heap) (n := 3) (Z := []) (esl _) rm' (Sub.refl _) fun iv s₅ k₅ h₅ => ?_
  have F₅ := F₄.keep (ksub k₅)
  obtain ⟨sl, lo, up, y, rfl, ⟨⟨oc, od, odt, osl⟩, hso, hc, hd⟩, pl, pu, py⟩ := h₅
  cases pu; cases py; cases pl
  dsimp only at hc hd
  subst hc hd
  have k05 : Sub s.heap s₅.heap := sub.trans (((ksub k₂).trans (ksub k₃)).trans ((ksub k₄).trans (ksub k₅)))
  have a5 := a.sub k05
  have p5 := pf.sub k05
  have hl5 := ksub k₅ _ _ (ksub k₄ _ _ (hid_sub _ _ _ _ hl))
  have hxZ : x ∈ L :: (cellAddrs L (fdOf (KW w) 107).scope ++ Z) := .tail _ (List.mem_append_right _ hx)
  have hdZ : d ∈ L :: (cellAddrs L (fdOf (KW w) 107).scope ++ Z) := .tail _ (List.mem_append_right _ hdz)
  have hlx : l ≠ x := by rintro rfl; rw [hid_none hxZ] at hl; cases hl
  have hys : ys.size = new.length := by have := hpl.length; simp at this; lia
  refine si_all p5.X a5 (by lia) hso hl5 hlx (by lia) fun f hf => ?_
  obtain ⟨n6, a6⟩ := a5.turn a5.ne f
  rw [hf] at a6
  have ko : ∀ b o, b ≠ x → s₅.heap.get? b = some o → (turned s₅.heap x f).get? b = some o := fun b o hb e => turned_other f hb e
  have p6 : PF (KW w) (turned s₅.heap x f) := pf0.sub fun b o e => ko b o (fun q => by rw [q, hHx] at e; cases e) (k05 _ _ (sH _ _ e))
  -- self._initial_size = 0
  have hLx : x ≠ L := by
    intro q
    have := Heap.lt_size a.at_
    rw [q, hL] at this; exact Nat.lt_irrefl _ this
  have F₆ : Fm (hid [x, d] s.heap) (callEnvC (fdOf (KW w) 107) L 107) (L :: (cellAddrs L (fdOf (KW w) 107).scope ++ [x, d])) (L :: (cellAddrs L (fdOf (KW w) 107).scope ++ Z)) [] [(Str.ofString "self", V (.ref x)), (Str.ofString "startval", Ls R0 new)] (turned s₅.heap x f) :=
    F₅.other (.tail _ (List.mem_append_right _ (by simp))) ⟨hLx, fun y e => by
      have e' : (callEnvC (fdOf (KW w) 107) L 107).cells = [] := by kernel_rfl
      rw [e'] at e; cases e⟩ (by simp) ko ⟨_, a6.at_⟩
  refine wpAny_execs_cons (plainObj_wpAny_Assign_Attribute ?_ (by kernel_rfl))
  refine wp_ev (s := { s₅ with heap := turned s₅.heap x f }) (h := turned s₅.heap x f) (n := 3) (Z := []) (S := I 0) ev_int rm' (Sub.refl _) fun v s₆ k₆ e => ?_
  obtain ⟨t, rfl⟩ := e
  have F₇ := F₆.keep (ksub k₆)
  refine wp_ev (h := s₆.heap) (n := 3) (Z := []) (S := V (.ref x)) (ev_var F₇.loc lk_here (by simp) (by decide +kernel)) rm' (Sub.refl _) fun ov s₇ k₇ e7 => ?_
  cases e7
  have k67 := (ksub k₆).trans (ksub k₇)
  have a7 := a6.sub k67
  have p7 := p6.sub k67
  have hne := a7.ne
  obtain ⟨od7, v7, ed7, _, _, _, H0, kt, rfl⟩ := a7.size
  have I7 : InstAt s₇.heap x (accObj d ys n6) 125 (some (szObj H0 kt v7)) := ⟨a7.at_, rfl, rfl, ed7⟩
  refine set_plain p7.X I7 (acc_sa _) (osa_set (s := { s₇ with toks := s₇.toks + 1 }) p7.X a7.at_ ed7 ?_)
  dsimp only
  have hed : (s₇.heap.update d (Obj.putName "_initial_size" (PyData.keyHash w.params "_initial_size") (.str "_initial_size" (s₇.toks + 1)) (.int 0 t))).get? d = some (szObj H0 kt (.int 0 t)) := by
    rw [Heap.get?_update_self _ ed7 (by rw [putS]; rfl), putS]
  have ko2 : ∀ b o, b ≠ d → s₇.heap.get? b = some o → (s₇.heap.update d (Obj.putName "_initial_size" (PyData.keyHash w.params "_initial_size") (.str "_initial_size" (s₇.toks + 1)) (.int 0 t))).get? b = some o := fun b o hb e => (Heap.get?_update_other _ _ (Ne.symm hb)).trans e
  generalize s₇.heap.update d (Obj.putName "_initial_size" (PyData.keyHash w.params "_initial_size") (.str "_initial_size" (s₇.toks + 1)) (.int 0 t)) = H8 at hed ko2 ⊢
  refine bl_nil ?_
  have a8 : AccAt (KW w) H8 x d ys n6 0 := ⟨ko2 _ _ hne.symm a7.at_, szO_sizeD (hz := H8) hed ⟨H0, kt, t, rfl⟩⟩
  have kz8 : Sub (hid (L :: (cellAddrs L (fdOf (KW w) 107).scope ++ Z)) s₃.heap) (hid Z H8) := fun b o e => by
    have hb : b ∉ L :: (cellAddrs L (fdOf (KW w) 107).scope ++ Z) := fun q => by rw [hid_none q] at e; cases e
    have e3 := hid_sub _ _ _ _ e
    refine hid_get (ko2 b o (fun q => hb (q ▸ hdZ)) (k67 _ _ (ko b o (fun q => hb (q ▸ hxZ)) (ksub k₅ _ _ (ksub k₄ _ _ e3))))) fun q => hb (.tail _ (List.mem_append_right _ q))
  refine q _ ys n6 ?_ (fun b o hb1 hb2 e => ko2 b o hb2 (k67 _ _ (ko b o hb1 (k05 _ _ e)))) a8 (paired_imp (fun a v r => mR a _ _ _ kz8 r) hpl)
  have l5 := l₁.trans (((klike k₂).trans (klike k₃)).trans ((klike k₄).trans (klike k₅)))
  have l7 : Like { s₅ with heap := turned s₅.heap x f } s₇ := (klike k₆).trans (klike k₇)
  exact (l5.trans (Like.trans (b := { s₅ with heap := turned s₅.heap x f }) ⟨_, _, rfl⟩ l7)).trans ⟨_, _, rfl⟩
end
end
end
section
open PySem PySem.W PyProof.Rows
open PySem.Builtin PySem.Builtin.Str PySem.StrLaws
set_option Elab.async false
set_option maxRecDepth 100000
set_option linter.unusedVariables false
set_option maxHeartbeats 4000000
noncomputable section
theorem noTabS (P : Params) : ((K1 P).lookup 94).isNone = true := by kernel_rfl
theorem PF.butTabS {w : World} {h h' : Heap} (p : PF (KW w) h) (hx : ∃ o, h.get? 94 = some o ∧ TabO h o) (kk : ∀ b o, b ≠ 94 → h.get? b = some o → h'.get? b = some o) : PF (KW w) h' := by
  obtain ⟨ot, et, ps, hd, _⟩ := hx
  have ns : ∀ {a m}, h.Ns a m → h'.Ns a m := fun {a m} ⟨o, es, ep, e, hd', r⟩ => ⟨o, es, ep, kk _ _ (by rintro rfl; rw [et] at e; cases e; rw [hd] at hd'; cases hd') e, hd', r⟩
  refine ⟨fun a o e => kk a o ?_ (p.X _ _ e), ?_, ?_⟩
  · rintro rfl
    have h1 := noTabS w.params
    rw [e] at h1; cases h1
  · obtain ⟨m, a, c⟩ := p.nl
    exact ⟨m, ns a, c⟩
  · obtain ⟨mg, mb, a, c, e⟩ := p.bt
    exact ⟨mg, mb, ns a, ns c, e⟩
theorem BM.butTabS {h h' : Heap} (b : BM h) (hx : ∃ o, h.get? 94 = some o ∧ TabO h o) (kk : ∀ b o, b ≠ 94 → h.get? b = some o → h'.get? b = some o) : BM h' := by
  obtain ⟨ot, et, ps, hd, _⟩ := hx
  obtain ⟨mg, bm, ob, x⟩ := b
  refine ⟨mg, bm, ob, ?_, x.name, x.ne, kk _ _ ?_ x.obj, x.cls, x.dict, x.data⟩
  · obtain ⟨o, es, ep, e, hd', r⟩ := x.ns
    exact ⟨o, es, ep, kk _ _ (by rintro q; rw [q, et] at e; cases e; rw [hd] at hd'; cases hd') e, hd', r⟩
  · rintro rfl
    have e := x.obj
    rw [et] at e; cases e
    rw [x.data] at hd; cases hd
theorem codeS (P : Params) : codeHdIn (K1 P) 98 94 = true := by kernel_rfl
theorem isCodeS {w : World} {h : Heap} (X : (KW w).In h) (hx : ∃ o, h.get? 94 = some o ∧ TabO h o) : ∃ ps, h.IsCode 98 94 ps ∧ h.TableAt 98 94 ps := by
  obtain ⟨o, e, ps, hd, ht, ho⟩ := hx
  obtain ⟨oc, vs, file, tf, flags, tg, inF, text, tt, e1, e2, e3, e4, e5, e6, e7, e8, e9, e10⟩ := codeHd_of_K (c := 98) (P := 94) X (codeS w.params)
  exact ⟨ps, ⟨oc, vs, file, tf, flags, tg, inF, text, tt, o, e1, e3, e5, e6, e7, e8, e9, e, hd, ht, e10⟩, ⟨oc, vs, e1, e2, e3, e4⟩, by rw [e, ho]⟩
theorem isCodeS_tab {h : Heap} {ps} (x : h.IsCode 98 94 ps) (y : h.TableAt 98 94 ps) : ∃ o, h.get? 94 = some o ∧ TabO h o := by
  obtain ⟨oc, vs, file, tf, flags, tg, inF, text, tt, op, e1, e3, e5, e6, e7, e8, e9, e, hd, ht, e10⟩ := x
  have := y.2
  rw [e] at this
  exact ⟨op, e, ps, hd, ht, Option.some.inj this⟩
theorem fnB_str (P : Params) : isFnB (K1 P) 99 = true := by kernel_rfl
noncomputable def strCat (items : List (List Nat × List Nat)) : List Nat := (items.map fun p => p.1 ++ p.2).flatten
theorem strCat_mem {items : List (List Nat × List Nat)} {p : List Nat × List Nat} (h : p ∈ items) : (p.1 ++ p.2).length ≤ (strCat items).length := by
  unfold strCat
  induction items with
  | nil => cases h
  | cons q t ih =>
    simp only [List.map_cons, List.flatten_cons, List.length_append] at ih ⊢
    rcases List.mem_cons.mp h with rfl | h
    · lia
    · have := ih h; lia
theorem es_bool (P : Params) : (match globIn (K1 P) (Str.ofString "EMPTYSTRING") with | some (some (.str x _)) => x.cps.isEmpty | _ => false) = true := by kernel_rfl
theorem gn_es {w : World} {h : Heap} (p : PF (KW w) h) : ∃ t, GN h (Str.ofString "EMPTYSTRING") (.str ⟨#[]⟩ t) := by
  have h1 := es_bool w.params
  cases hg : globIn (K1 w.params) (Str.ofString "EMPTYSTRING") with
  | none => rw [hg] at h1; cases h1
  | some o =>
    cases o with
    | none => rw [hg] at h1; cases h1
    | some v =>
      rw [hg] at h1
      cases v <;> first | (cases h1; done) | skip
      rename_i x t
      have : x = ⟨#[]⟩ := by obtain ⟨c⟩ := x; exact congrArg Str.mk (Array.isEmpty_iff.mp h1)
      subst this
      exact ⟨t, gn_own p hg⟩
section
variable {prog : Program} {w : World} {A : Around} {E : Value → Shared → Prop} {s : Shared} {x d : Addr} {xs : Array Value} {n nn : Nat} {k : Int} {Z : List Addr} {env : Env} {h : Heap}
theorem ev_es {pos : Pos} (ge : GEnv env) (p : PF (KW w) h) (hx : env.kindOf (Str.ofString "EMPTYSTRING") = some .globalImplicit) : EV prog w n Z env h (.Name (Str.ofString "EMPTYSTRING") pos) (Tl []) := by
  obtain ⟨t, g⟩ := gn_es p
  exact EV.imp (Z := Z) (ev_glob ge g hx (by decide +kernel)) fun h v e => by cases e; exact ⟨_, t, rfl, rfl⟩
theorem ev_joinT {o e : Expr} {apos pos : Pos} {a b : List Nat} (hbase : attributeBase o "join" env (eval o env) = eval o env) (hs : starEach [e] env = [(false, eval e env)]) (hline : (apos.endLine == pos.line) = true)
    (x : EV prog w n [] env h o (Tl [])) (y : EV prog w n [] env h e (T2 Tl Tl (a, b))) (hb : (a ++ b).length ≤ 2 ^ 24) : EV prog w n Z env h (.Call (.Attribute o "join" apos) [e] [] pos) (Tl (a ++ b)) :=
  ev_methS meth_join hbase hs hline x y fun A s E x t v rm k hx ⟨ta, va, vb, e, ht, ⟨xa, tka, ea, qa⟩, ⟨xb, tkb, eb, qb⟩⟩ => by
    subst e ea eb
    have hxe : x = ⟨#[]⟩ := by obtain ⟨c⟩ := x; exact congrArg Str.mk (Array.ext' hx)
    subst hxe
    obtain ⟨o1, e1, c1, n1, d1⟩ := ht
    have hf : flat [xa, xb] = a ++ b := by
      dsimp only at qa qb
      unfold flat; simp [qa, qb]
    have hok := joinOk_of [xa, xb] (by rw [hf]; exact hb)
    refine call_meets F.slot_str_join (typeIs_str _ _ _) F.entry_str_join (F.args_str_join_2 _ _) (meets_str_join_tuple ⟨#[]⟩ t ta [(xa, tka), (xb, tkb)] (by unfold JoinOk at hok; simpa using hok)) ⟨⟨o1, _, hid_sub _ _ _ _ e1, c1, d1⟩, post_join _ ⟨joinFit_length (by unfold JoinOk at hok; simpa using hok), fun t' k' => ?_⟩⟩
    exact ⟨keeps_tok s k', _, t', rfl, by rw [join_toList]; exact hf⟩
theorem mc_str {items : List (List Nat × List Nat)} {R : Result → Shared → Prop} (pf : PF (KW w) s.heap) (bm : BM s.heap) (rm : Rm 6 A) (a : AccAt (KW w) s.heap x d xs nn k)
    (hp : Paired (fun p v => T2 Tl Tl p s.heap v) items xs.toList) (hsz : items.length ≤ 900) (hm : (strCat items).length ≤ 2 ^ 24) (ht : ∃ o, s.heap.get? 94 = some o ∧ TabO s.heap o)
    (q : ∀ s' v, LikeG s s' → (∀ b o, b ≠ 94 → s.heap.get? b = some o → s'.heap.get? b = some o) → (∃ o, s'.heap.get? 94 = some o ∧ TabO s'.heap o) → Tl (strCat items) s'.heap v → R (.ok (.ret v)) s') :
    codeAny (model prog w) A (.call (.ref 99) ⟨[.ref x], []⟩) R s := by
  obtain ⟨fa, hb⟩ := fnAt_of pf.X pf.nl (fnB_str _)
  refine enter_fnB (n := 5) (Z := [94]) (Xc := [94]) (μ := [(94, TabO)]) (ρ := [(Str.ofString "self", V (.ref x))]) (binds := [(Str.ofString "self", .ref x)]) rm fa hb (binds_peek pf.X (fun _ => by kernel_rfl)) (by kernel_rfl) ?_ (by simp) (fun _ _ h => nomatch h) ?_ (by kernel_rfl) (by kernel_rfl) (by kernel_rfl) (by simp)
    (.cons rfl (flat_V _).mono .nil) ?_ (by simp) fun L s₁ E' hL rm' l₁ F sub => ?_
  · intro L y hy
    simp only [List.mem_cons, List.not_mem_nil, or_false] at hy
    subst hy
    exact .inl (by kernel_rfl)
  · intro z hz
    simp only [List.mem_cons, List.not_mem_nil, or_false] at hz
    subst hz
    obtain ⟨o, e, _⟩ := ht
    exact ⟨o, e⟩
  · intro p hp
    simp only [List.mem_cons, List.not_mem_nil, or_false] at hp
    subst hp
    obtain ⟨o, e, h⟩ := ht
    exact ⟨by simp, mono_TabO, o, e, h⟩
  have p1 := pf.sub sub
  have ge : GEnv (callEnvC (fdOf (KW w) 99) L 99) := ⟨by kernel_rfl, by kernel_rfl, by kernel_rfl⟩
  have hcode : (callEnvC (fdOf (KW w) 99) L 99).code = .ref 98 := by kernel_rfl
  refine wpAny_execs_cons (wpAny_Return_some ?_)
  refine Call_method1 (by rfl) (by rfl) (by rfl) ?_
  refine wp_ev (h := s₁.heap) (n := 5) (Z := []) (S := Tl []) (ev_es ge p1 (by kernel_rfl)) rm' (Sub.refl _) fun u s₂ k₂ e2 => ?_
  obtain ⟨ux, ut, rfl, hux⟩ := e2
  have hxe : ux = ⟨#[]⟩ := by obtain ⟨c⟩ := ux; exact congrArg Str.mk (Array.ext' hux)
  subst hxe
  refine ⟨"str", "str.join", meth_join.pa, meth_join.slot, meth_join.ty, typeIs_str _ _ _, (fun a e => nomatch e), ?_⟩
  refine Calls.callWith_builtin (by rfl) (Calls.evalArgs_plain (Calls.spliced_cons ?_))
  -- the generator
  refine wpAny_GeneratorExp_walksQTD rm'.hh (by rfl) (closureFor_is (fun y hy hf => ?_)) (by decide +kernel) (by decide +kernel) (by decide +kernel) (by decide +kernel) (by decide +kernel) (by rfl) (by have := rm'.depth; show _ < 1000; lia) ?_ (fun _ => rfl)
  · exfalso
    revert y
    decide +kernel
  have p2 := p1.sub (ksub k₂)
  refine wp_ev (h := s₁.heap) (n := 5) (Z := []) (S := V (.ref x)) (by walk_at "ev") rm' (ksub k₂) fun u s₃ k₃ e3 => ?_
  cases e3
  have p3 := p2.sub (ksub k₃)
  have k03 := sub.trans ((ksub k₂).trans (ksub k₃))
  have a3 := a.sub k03
  have F3 := (F.keep (ksub k₂)).keep (ksub k₃)
  have ht3 : ∃ o, s₃.heap.get? 94 = some o ∧ TabO s₃.heap o := let ⟨o, e, h⟩ := ht; ⟨o, k03 _ _ e, h⟩
  have hx94 : x ≠ 94 := by
    rintro rfl
    obtain ⟨o, e, ps, hd, _⟩ := ht
    rw [a.at_] at e; cases e; cases hd
  have hxlt : x < s₃.heap.objs.size := Heap.lt_size a3.at_
  have h94lt : 94 < s₃.heap.objs.size := by obtain ⟨o, e, _⟩ := ht3; exact Heap.lt_size e
  -- the items
  have hlen : xs.size = items.length := by have := hp.length; simp at this; lia
  obtain ⟨T, hT⟩ := Classical.axiomOfChoice (r := fun (j : Nat) (y : Addr × Value × Value) => j < xs.size → xs[j]? = some (.ref y.1) ∧ s.heap.IsTuple y.1 #[y.2.1, y.2.2] ∧ ∃ p, items[j]? = some p ∧ Tl p.1 s.heap y.2.1 ∧ Tl p.2 s.heap y.2.2) (fun j => by
    by_cases hj : j < xs.size
    · have h1 : xs.toList[j]? = some xs[j] := by simp [hj]
      obtain ⟨p, hp1, ta, va, vb, e1, e2, e3, e4⟩ := paired_get hp h1
      exact ⟨(ta, va, vb), fun _ => ⟨by simp [hj, e1], e2, p, hp1, e3, e4⟩⟩
    · exact ⟨(0, .none, .none), fun h => absurd h hj⟩)
  have hT94 : ∀ j, j < xs.size → (T j).1 ≠ 94 := fun j hj e => by
    obtain ⟨o1, e1, c1, n1, d1⟩ := (hT j hj).2.1
    obtain ⟨o, e2, ps, hd, _⟩ := ht
    rw [e, e2] at e1; cases e1; rw [hd] at d1; cases d1
  have hTlt : ∀ j, j < xs.size → (T j).1 < s₃.heap.objs.size := fun j hj => by
    obtain ⟨o1, e1, _⟩ := (hT j hj).2.1
    exact Heap.lt_size (k03 _ _ e1)
  refine pyIter_acc p3.X a3 ⟨(p3.nl.keeps fun b o e => Heap.get?_push_of_some _ e), ?_⟩
  generalize hI : s₃.heap.objs.size = J at *
  obtain ⟨ps, hc3, htb3⟩ := isCodeS p3.X ht3
  refine genexpr_tab hcode (hc3.push _) (htb3.push _) fun code h₄ tk₄ ps' hx₄ hc₄ htb₄ => ?_
  have k34 : ∀ b o, b ≠ 94 → s₃.heap.get? b = some o → h₄.get? b = some o := fun b o hb e => hx₄ b o hb (Heap.get?_push_of_some _ e)
  have p4 : PF (KW w) h₄ := p3.butTabS ht3 k34
  have b4 : BM h₄ := (bm.sub k03).butTabS ht3 k34
  obtain ⟨mg, bmo, ob, M⟩ := id b4
  refine wpAny_builtinsFor (by rw [ge.g]; exact M.ns) M.name M.ne M.obj M.cls M.dict M.data ?_
  have hIlt : J < h₄.objs.size := by
    have : (s₃.heap.push { cls := .type "list_iterator", data := .fields #[.ref x, .int 0 0] }).get? J = some { cls := .type "list_iterator", data := .fields #[.ref x, .int 0 0] } := hI ▸ Heap.get?_push_size _ rfl
    exact Heap.lt_size (hx₄ _ _ (by lia : J ≠ 94) this)
  have hCge : J < h₄.objs.size := hIlt
  have hxI : x ≠ J := Nat.ne_of_lt hxlt
  have hTI : ∀ j, j < xs.size → (T j).1 ≠ J := fun j hj => Nat.ne_of_lt (hTlt j hj)
  generalize hval : (fun (j : Nat) => (match items[j]? with | some p => p.1 ++ p.2 | none => ([] : List Nat))) = val
  have hv : ∀ i p, items[i]? = some p → val i = p.1 ++ p.2 := fun i p e => by rw [← hval]; simp only [e]
  have hpass : passing (fun _ => true) xs.size 0 = List.range xs.size := by simp [passing]
  have hit₄ : h₄.IsListIter J x 0 := ⟨_, hx₄ _ _ (by lia : J ≠ 94) (hI ▸ Heap.get?_push_size _ rfl), rfl, rfl⟩
  have hseq₄ : SeqAt h₄ x xs := ⟨_, _, k34 _ _ hx94 a3.at_, rfl⟩
  have htup : ∀ j, j < xs.size → h₄.IsTuple (T j).1 #[(T j).2.1, (T j).2.2] := fun j hj => by
    obtain ⟨o1, e1, r1⟩ := (hT j hj).2.1
    exact ⟨o1, k34 _ _ (hT94 j hj) (k03 _ _ e1), r1⟩
  have base : ∀ {h' : Heap}, (∀ b ∈ List.range h₄.objs.size, b ∉ [J] → ∀ o, h₄.get? b = some o → h'.get? b = some o) → PF (KW w) h' := fun k => p3.butTabS ht3 fun b o hb e => by
    have e4 := k34 b o hb e
    refine k b (List.mem_range.mpr (Heap.lt_size e4)) (fun m => ?_) o e4
    simp only [List.mem_cons, List.not_mem_nil, or_false] at m
    subst m
    have h9 := Heap.lt_size e
    rw [hI] at h9
    exact Nat.lt_irrefl _ h9
  refine ⟨J, J :: x :: (List.range xs.size).map (fun j => (T j).1), [J], xs.size, _, _, _, fun _ => true, fun i y => Tl (val i) h₄ y, rfl,
    (fun A' hA => walksU_seq hA J x hxI xs (fun j => (T j).1) (fun j => #[(T j).2.1, (T j).2.2]) (fun j hj => (hT j hj).1) hTI), (fun i v hv => ⟨_, _, hv.2⟩), ⟨hit₄, hseq₄, htup⟩, (fun b hb => ?_), p4.nl, (fun hm => ?_), (fun href hr => ⟨fun A' E' i va vb s₂ m₂ hA hD hU hPt hns hma hmb hk => wpAny_pure ⟨rfl, keeps_refl _⟩, fun A' E' i va vb s₂ m₂ hA hD hU hPt _ hns hma hmb hk => ?_⟩), fun ga h₅ tk₅ gs hgb hag hsz₅ hk₅ W hat => ?_⟩
  · rcases List.mem_cons.mp hb with rfl | hb
    · exact hIlt
    · rcases List.mem_cons.mp hb with rfl | hb
      · exact Heap.lt_size (k34 _ _ hx94 a3.at_)
      · obtain ⟨j, hj, rfl⟩ := List.mem_map.mp hb
        obtain ⟨o1, e1, _⟩ := htup j (List.mem_range.mp hj)
        exact Heap.lt_size e1
  · simp only [List.mem_cons, List.not_mem_nil, or_false] at hm
    obtain ⟨mc, hns, _⟩ := p3.nl
    have h9 := hns.lt
    rw [hI, hm] at h9
    exact Nat.lt_irrefl _ h9
  · -- an item's text
    have hi := hPt.1
    obtain ⟨e1, e2⟩ : va = (T i).2.1 ∧ vb = (T i).2.2 := by simpa using congrArg Array.toList hPt.2
    obtain ⟨pp, hpp, h1, h2⟩ := (hT i hi).2.2
    have p5 : PF (KW w) s₂.heap := base fun b hb hn o e => hk b hb hn o (hr b o e)
    have hml : (pp.1 ++ pp.2).length ≤ 2 ^ 24 := Nat.le_trans (strCat_mem (List.mem_of_getElem? hpp)) hm
    show wpAny _ _ _ (fun v s' => Tl (val i) h₄ v ∧ _) _ _
    rw [hv i pp hpp]
    have L2 : Loc (genEnv { kind := .function, names := [(Str.ofString ".0", .local), (Str.ofString "fws", .local), (Str.ofString "part", .local), (Str.ofString "EMPTYSTRING", .globalImplicit)], isGenerator := true, isCoroutine := false } (clFold (callEnvC (fdOf (KW w) 99) L 99).cells [(Str.ofString ".0", .local), (Str.ofString "fws", .local), (Str.ofString "part", .local), (Str.ofString "EMPTYSTRING", .globalImplicit)] []) h₄.objs.size code builtinsNs (callEnvC (fdOf (KW w) 99) L 99)) [] [(Str.ofString "fws", Tl pp.1), (Str.ofString "part", Tl pp.2)] s₂.heap :=
      loc_of (m := m₂) rfl hns _ fun p hp => by
        simp only [List.mem_cons, List.not_mem_nil, or_false] at hp
        rcases hp with rfl | rfl
        · exact ⟨by kernel_rfl, ⟨va, hma, by rw [e1]; exact h1⟩, mono_Tl _⟩
        · exact ⟨by kernel_rfl, ⟨vb, hmb, by rw [e2]; exact h2⟩, mono_Tl _⟩
    have ge2 : GEnv (genEnv { kind := .function, names := [(Str.ofString ".0", .local), (Str.ofString "fws", .local), (Str.ofString "part", .local), (Str.ofString "EMPTYSTRING", .globalImplicit)], isGenerator := true, isCoroutine := false } (clFold (callEnvC (fdOf (KW w) 99) L 99).cells [(Str.ofString ".0", .local), (Str.ofString "fws", .local), (Str.ofString "part", .local), (Str.ofString "EMPTYSTRING", .globalImplicit)] []) h₄.objs.size code builtinsNs (callEnvC (fdOf (KW w) 99) L 99)) := ⟨rfl, ge.g, rfl⟩
    refine wp_ev (h := s₂.heap) (n := 3) (Z := []) (S := Tl (pp.1 ++ pp.2)) ?_ ⟨hA, ?_, ?_⟩ (Sub.refl _) fun v s₃ k₃ hv => ?_
    · exact ev_joinT (by rfl) (by rfl) (by rfl) (ev_es ge2 p5 (by kernel_rfl)) (ev_pair (p := (pp.1, pp.2)) (List.forall_mem_nil _) (by rfl) (ev_var L2 (by walk_at "lk") (by simp) (by decide +kernel)) (mono_Tl _) (ev_var L2 (by walk_at "lk") (by simp) (by decide +kernel)) (mono_Tl _)) hml
    · have := rm'.depth; lia
    · have := rm'.units; lia
    · exact ⟨hv, k₃⟩
  obtain ⟨o94, e94, t94⟩ := isCodeS_tab hc₄ htb₄
  have k35 : ∀ b o, b ≠ 94 → s₃.heap.get? b = some o → h₅.get? b = some o := fun b o hb e => hk₅ _ _ (k34 b o hb e)
  refine Calls.spliced_nil ?_
  have hn : (passing (fun _ => true) xs.size 0).length = items.length := by rw [hpass, List.length_range, hlen]
  have hga : ga < h₅.objs.size := by lia
  have hag' : h₄.objs.size < ga := hag
  refine SC.joinGen W.in4_2 (fun i s' st => st.1.typeIs) hat (fun b hb => ?_) List.mem_cons_self (fun i v ⟨j, _, hv⟩ => by obtain ⟨y, u, e, _⟩ := hv; exact ⟨y, u, e⟩) (fun s' l hm' hacc => ?_) (by rw [hn, sizeLine_eq]; lia)
  · show b < h₅.objs.size
    rcases List.mem_cons.mp hb with rfl | hb
    · exact hga
    · rcases List.mem_cons.mp hb with rfl | hb
      · exact Nat.lt_trans hag' hga
      · exact Nat.lt_trans (Nat.lt_trans (List.mem_range.mp hb) hag') hga
  have hl : (l.map (·.1)).map (·.cps.toList) = items.map (fun p => p.1 ++ p.2) := by
    apply List.ext_getElem?
    intro j
    have hsz' : l.length = items.length := by
      have h1 : l.length = (passing (fun _ => true) xs.size 0).length := by simpa [strValues] using hacc.1
      lia
    by_cases hj : j < items.length
    · have hj' : j < l.length := by lia
      obtain ⟨i', hi', y, u, ey, ty⟩ := hacc.2 j (.str l[j].1 l[j].2) (by simp [strValues, List.getElem?_eq_getElem hj'])
      rw [hpass] at hi'
      have : i' = j := by
        obtain ⟨h1, h2⟩ := List.getElem?_eq_some_iff.mp hi'
        simpa using h2.symm
      subst this
      cases ey
      rw [hv i' _ (List.getElem?_eq_getElem hj)] at ty
      simp [List.getElem?_eq_getElem hj', List.getElem?_eq_getElem hj, ty]
    · rw [List.getElem?_eq_none (by simp; lia), List.getElem?_eq_none (by simp; lia)]
  have hf : flat (l.map (·.1)) = strCat items := by
    unfold flat strCat
    rw [← hl, List.flatMap_def]
  refine ⟨joinOk_of _ (by rw [hf]; exact hm), fun t' tk' => ?_⟩
  have kk : ∀ b o, b ≠ 94 → s.heap.get? b = some o → s'.heap.get? b = some o := fun b o hb e => by
    have e3 := k03 b o e
    refine hm'.heap b o (fun hmem => ?_) (k35 b o hb e3)
    have h9 := Heap.lt_size e3
    rw [hI] at h9
    simp only [List.mem_cons, List.not_mem_nil, or_false] at hmem
    rcases hmem with rfl | rfl
    · exact Nat.lt_irrefl _ (Nat.lt_trans h9 hIlt)
    · exact Nat.lt_irrefl _ h9
  refine q _ _ ?_ kk ⟨o94, ?_, t94⟩ ⟨_, t', rfl, by rw [join_toList]; exact hf⟩
  · obtain ⟨_, _, rfl⟩ := l₁
    obtain ⟨_, _, rfl, _⟩ := k₂
    obtain ⟨_, _, rfl, _⟩ := k₃
    refine ⟨hm'.drawn, hm'.os, fun hg => ?_⟩
    have := AllBare.movedS (AllBare.push hg hgb) hm'
    exact this
  · refine hm'.heap 94 o94 (fun hmem => ?_) (hk₅ _ _ e94)
    simp only [List.mem_cons, List.not_mem_nil, or_false] at hmem
    rcases hmem with h | h
    · have h9 : (94 : Nat) = h₄.objs.size := h
      have h10 : (94 : Nat) < h₄.objs.size := Heap.lt_size e94
      lia
    · have h9 : (94 : Nat) = J := h
      lia
end
end
end
section
open PySem PySem.W PyProof.Rows
set_option Elab.async false
set_option maxRecDepth 100000
set_option linter.unusedVariables false
set_option maxHeartbeats 4000000
noncomputable section
noncomputable def tok0 (P : Params) : Tok := match (fdOf (K1 P) 77).defaults with
  | .ref a => (match (K1 P).lookup a with
    | some o => (match o.data with
      | .seq vs _ => (match vs.toList with
        | [Value.int _ t] => t
        | _ => default)
      | _ => default)
    | none => default)
  | _ => default
theorem tok0_is (P : Params) (S : Setting) (x : Addr) : peek (K1 P) S (bindArgs (fdOf (K1 P) 77) ⟨[.ref x], []⟩) = some [(Str.ofString "self", .ref x), (Str.ofString "i", .int 0 (tok0 P))] := by kernel_rfl
section
variable {prog : Program} {w : World} {A : Around} {E : Value → Shared → Prop} {s : Shared} {x d b f : Addr} {xs : Array Value} {n nn : Nat} {k k' : Int} {env : Env} {body : List Stmt} {X Z Z0 Z1 : List Addr} {h h' H : Heap} {μ : List (Addr × MSp)} {ρ : List (Str × Sp)} {P P' P2 P2' : MSp}
/-- two hidden things turn -/
theorem Fm.turn2 {o' od' : Obj} (F : Fm H env X Z ((x, P) :: (d, P2) :: μ) ρ h) (kk : ∀ b o, b ≠ x → b ≠ d → h.get? b = some o → h'.get? b = some o) (mP : MonoM P') (e : h'.get? x = some o') (hP : P' (hid Z h') o') (mP2 : MonoM P2') (e2 : h'.get? d = some od') (hP2 : P2' (hid Z h') od') : Fm H env X Z ((x, P') :: (d, P2') :: μ) ρ h' := by
  obtain ⟨hxX, hap, hnm, _⟩ := F.head
  obtain ⟨hdX, hapd, hnmd, _⟩ := F.leave.head
  have G := F.leave.leave
  have hnm2 : x ∉ μ.map (·.1) := fun m => hnm (.tail _ m)
  have kz : Sub (hid Z h) (hid Z h') := hid_mono fun b o n e => kk b o (fun q => n (q ▸ F.xz x hxX)) (fun q => n (q ▸ F.xz d hdX)) e
  have G' : Fm H env X Z μ ρ h' := {
    kind := G.kind
    sub := fun b o e => kk b o (fun q => by rw [q, G.zz x hxX] at e; cases e) (fun q => by rw [q, G.zz d hdX] at e; cases e) (G.sub b o e)
    zz := G.zz
    xz := G.xz
    ns := let ⟨m, y⟩ := G.ns; ⟨m, y.at' fun o e => kk _ o (Ne.symm hap.L) (Ne.symm hapd.L) e⟩
    cells := fun y c e e' => let ⟨⟨v, o, y', d'⟩, z⟩ := G.cells y c e e'; ⟨⟨v, o, kk _ o (fun q => hap.cells y (q ▸ e')) (fun q => hapd.cells y (q ▸ e')) y', d'⟩, z⟩
    apart := G.apart
    alive := fun y c e => let ⟨o, y'⟩ := G.alive y c e; ⟨o, kk _ _ (fun q => hap.cells y (q ▸ e)) (fun q => hapd.cells y (q ▸ e)) y'⟩
    L := G.L
    vars := fun y S e => let ⟨m, f, v, a, b⟩ := G.vars y S e; ⟨m, f, v, (by
      cases a with
      | loc hl hn hm => exact .loc hl (hn.at' fun o e => kk _ o (Ne.symm hap.L) (Ne.symm hapd.L) e) hm
      | cell hl hc hv => exact .cell hl hc (let ⟨o, y', d'⟩ := hv; ⟨o, kk _ o (fun q => hap.cells y (q ▸ hc)) (fun q => hapd.cells y (q ▸ hc)) y', d'⟩)), m _ _ _ kz b⟩
    own := fun p hp => let ⟨a, b, c, d', o, e, f⟩ := G.own p hp; ⟨a, b, c, d', o, kk _ _ (fun q => hnm2 (q ▸ List.mem_map_of_mem hp)) (fun q => hnmd (q ▸ List.mem_map_of_mem hp)) e, b _ _ _ kz f⟩
    nodup := G.nodup
    live := fun y m => by
      by_cases q : y = x
      · subst q; exact ⟨_, e⟩
      · by_cases q2 : y = d
        · subst q2; exact ⟨_, e2⟩
        · obtain ⟨o, e⟩ := G.live y m; exact ⟨o, kk _ _ q q2 e⟩ }
  exact (G'.take hdX hapd hnmd mP2 e2 hP2).take hxX hap hnm mP e hP
theorem mc_popfP {α : Type} {R0 : α → Sp} {items : List α} {R : Result → Shared → Prop} (pf0 : PF (KW w) H) (sH : Sub H s.heap) (hHx : H.get? x = none) (hHd : H.get? d = none) (rm : Rm 6 A) (hs : items.length ≤ 900) (zl : Zl s.heap Z) (hx : x ∈ Z) (hdz : d ∈ Z) (hne : x ≠ d) (mR : ∀ a, Mono (R0 a))
    {o od : Obj} (e0 : s.heap.get? x = some o) (c0 : AccP d R0 items (hid Z s.heap) o) (ed : s.heap.get? d = some od) (cd : SzO k (hid Z s.heap) od)
    (q : ∀ s' v o' od', Like s s' → (∀ b o, b ≠ x → b ≠ d → s.heap.get? b = some o → s'.heap.get? b = some o) → s'.heap.get? x = some o' → s'.heap.get? d = some od' → AccP d R0 [] (hid Z s'.heap) o' → SzO k (hid Z s'.heap) od' → Ls R0 items (hid Z s'.heap) v → R (.ok (.ret v)) s') :
    codeAny (model prog w) A (.call (.ref 77) ⟨[.ref x], []⟩) R s := by
  have pf := pf0.sub sH
  obtain ⟨fa, hb⟩ := fnAt_of pf.X pf.nl (fnB_popf _)
  have hp0 : clipAt items.length 0 = 0 := by unfold clipAt; rw [if_neg (by decide)]; lia
  refine enter_fnB (n := 5) (Z := Z) (Xc := [x, d]) (μ := [(x, AccP d R0 items), (d, SzO k)]) (ρ := [(Str.ofString "self", V (.ref x)), (Str.ofString "i", I 0)]) (binds := [(Str.ofString "self", .ref x), (Str.ofString "i", .int 0 (tok0 w.params))]) rm fa hb (binds_peek pf.X (fun S => tok0_is w.params S x)) (by kernel_rfl) ?_ (by simp; decide) (fun _ _ h => nomatch h) zl (by kernel_rfl) (by kernel_rfl) (by kernel_rfl) (fun z hz => by
      simp only [List.mem_cons, List.not_mem_nil, or_false] at hz
      rcases hz with rfl | rfl <;> assumption)
    (.cons rfl (flat_V _).mono (.cons ⟨_, rfl⟩ (mono_I _) .nil)) ?_ (by simpa using hne) fun L s₁ E' hL rm' l₁ F sub => ?_
  · intro L y hy
    simp only [List.mem_cons, List.not_mem_nil, or_false] at hy
    rcases hy with rfl | rfl <;> exact .inl (by kernel_rfl)
  · intro p hp
    simp only [List.mem_cons, List.not_mem_nil, or_false] at hp
    rcases hp with rfl | rfl
    · exact ⟨by simp, mono_AccP mR _, o, e0, c0⟩
    · exact ⟨by simp, mono_SzO _, od, ed, cd⟩
  have p0 : PF (KW w) (hid [x, d] s.heap) := pf0.sub fun b o e => hid_get (sH _ _ e) fun m => by
    simp only [List.mem_cons, List.not_mem_nil, or_false] at m
    rcases m with q | q
    · rw [q, hHx] at e; cases e
    · rw [q, hHd] at e; cases e
  -- popped = self[i:]
  obtain ⟨xs1, n1, a1, hp1⟩ := F.acc (w := w)
  have hsz1 : xs1.size = items.length := by have := hp1.length; simp at this; lia
  refine' bl_assign F rm' (ev_accsl (Z := L :: (cellAddrs L (fdOf (KW w) 77).scope ++ Z)) (p0.sub F.sub) F.live a1 (by lia) (by walk_at "ev") (by walk_at "ev") mR hp1) (mono_Ls mR _) (.inl (by kernel_rfl)) (by kernel_rfl) fun s₂ l₂ F₂ => ?_
  -- self[i:] = []
  refine wpAny_execs_cons (wpAny_Assign_Subscript ?_ (by kernel_rfl))
  refine wp_ev (h := s₂.heap) (n := 5) (Z := L :: (cellAddrs L (fdOf (KW w) 77).scope ++ Z)) (ev_list (α := Int) (xs := []) (R := I) F₂.live (by kernel_rfl) .nil (by decide) mono_I) rm' (Sub.refl _) fun lv s₃ k₃ hl => ?_
  obtain ⟨l, ys, rfl, ⟨ln, hl⟩, hpl⟩ := hl
  have hys : ys = #[] := by apply Array.ext'; cases hpl' : ys.toList with | nil => rfl | cons _ _ => rw [hpl'] at hpl; cases hpl
  subst hys
  have F₃ := F₂.keep (ksub k₃)
  refine wp_ev (h := s₃.heap) (n := 5) (Z := []) (S := V (.ref x)) (by walk_at "ev") rm' (Sub.refl _) fun ov s₄ k₄ e4 => ?_
  cases e4
  have F₄ := F₃.keep (ksub k₄)
  have esl : ∀ p1 p2, EV prog w 5 [] (callEnvC (fdOf (KW w) 77) L 77) s₄.heap (.Slice (some (.Name (Str.ofString "i") p1)) none none p2) (Sl (some 0) none none) := fun p1 p2 => ev_slice (List.forall_mem_nil _) (evp_some (by walk_at "ev")) evp_none evp_none
  refine wp_ev (h := s₄.heap) (n := 5) (Z := []) (esl _ _) rm' (Sub.refl _) fun iv s₅ k₅ h₅ => ?_
  have F₅ := F₄.keep (ksub k₅)
  obtain ⟨sl, lo, up, y, rfl, ⟨⟨oc, ob, odt, osl⟩, hso, hc, hd⟩, pl, pu, py⟩ := h₅
  cases pu; cases py; cases pl
  dsimp only at hc hd
  subst hc hd
  obtain ⟨xs5, n5, a5, hp5⟩ := F₅.acc (w := w)
  have hsz5 : xs5.size = items.length := by have := hp5.length; simp at this; lia
  have hl5 := ksub k₅ _ _ (ksub k₄ _ _ (hid_sub _ _ _ _ hl))
  have hxZ : x ∈ L :: (cellAddrs L (fdOf (KW w) 77).scope ++ Z) := F₅.xZ
  have hlx : l ≠ x := by rintro rfl; rw [hid_none hxZ] at hl; cases hl
  refine si_acc (p0.sub F₅.sub).X a5 (by lia) hso hl5 hlx (by decide) fun f hf => ?_
  obtain ⟨n6, e6⟩ := turned_at (ox := accObj d xs5 n5) a5.at_ f
  have hfx : (f xs5).toList = [] := by
    rw [hf, clip_min, hsz5, hp0]
    have h2 : (max (max 0 (min (if (0 : Int) < 0 then 0 + (items.length : Int) else 0) (items.length : Int))) (items.length : Int)).toNat = items.length := max_end _ _
    rw [h2]
    simp
  have ko : ∀ b o, b ≠ x → s₅.heap.get? b = some o → (turned s₅.heap x f).get? b = some o := fun b o hb e => turned_other f hb e
  have c6 : AccP d R0 [] (hid (L :: (cellAddrs L (fdOf (KW w) 77).scope ++ Z)) (turned s₅.heap x f)) (accObj d (f xs5) n6) := ⟨_, _, rfl, by rw [hfx]; exact .nil⟩
  have F₇ := F₅.turn (h' := turned s₅.heap x f) ko (mono_AccP mR []) e6 c6
  -- return popped
  refine bl_return (s := { s₅ with heap := turned s₅.heap x f }) (S := Ls R0 items) (Z := L :: (cellAddrs L (fdOf (KW w) 77).scope ++ Z)) rm' ?_ fun v s₈ k₈ hv => ?_
  · have e0 : cut items (some 0) none = items := by rw [cut_from, hp0]; rfl
    have h9 := ev_var (n := 5) (pos := ⟨0, 0, 0, 0⟩) (prog := prog) (w := w) F₇.loc (x := Str.ofString "popped") (S := Ls R0 (cut items (some 0) none)) (by walk_at "lk") (fun _ h => h) (by decide +kernel)
    have : Ls R0 (cut items (some 0) none) = Ls R0 items := by rw [e0]
    rw [← this]
    exact ev_var F₇.loc (by walk_at "lk") (fun _ h => h) (by decide +kernel)
  · have F₈ := F₇.keep (ksub k₈)
    obtain ⟨_, _, _, o8, e8, c8⟩ := F₈.head
    obtain ⟨_, _, _, od8, ed8, cd8⟩ := F₈.leave.head
    have hless : Sub (hid (L :: (cellAddrs L (fdOf (KW w) 77).scope ++ Z)) s₈.heap) (hid Z s₈.heap) := hid_less fun z m => .tail _ (List.mem_append_right _ m)
    refine q s₈ v o8 od8 ?_ (fun b o hb hb2 e => ?_) e8 ed8 (mono_AccP mR [] _ _ _ hless c8) cd8 (mono_Ls mR _ _ _ _ hless hv)
    · have l3 := (l₁.trans l₂).trans ((klike k₃).trans ((klike k₄).trans (klike k₅)))
      exact l3.trans (Like.trans (b := { s₅ with heap := turned s₅.heap x f }) ⟨_, _, rfl⟩ (klike k₈))
    · exact F₈.sub b o (hid_get e (by simp [hb, hb2]))
end
end
end
section
open PySem PySem.W PyProof.Rows
set_option Elab.async false
set_option maxRecDepth 100000
set_option linter.unusedVariables false
set_option maxHeartbeats 4000000
noncomputable section
section
variable {prog : Program} {w : World} {A : Around} {E : Value → Shared → Prop} {s : Shared} {x d b f : Addr} {xs : Array Value} {n nn : Nat} {k k' : Int} {env : Env} {body : List Stmt} {X Z Z0 Z1 : List Addr} {h h' H : Heap} {μ : List (Addr × MSp)} {ρ : List (Str × Sp)}
theorem acc_reset (P : Params) : findIn (K1 P) (.ref 125) "reset" = some (some (.ref 107)) := by kernel_rfl
theorem acc_str (P : Params) : findIn (K1 P) (.ref 125) "__str__" = some (some (.ref 99)) := by kernel_rfl
theorem acc_fn107 (P : Params) : typeIn (K1 P) (.ref 107) = some (.type "function") := by kernel_rfl
theorem acc_fn99 (P : Params) : isFn (K1 P) (.ref 99) = true := by kernel_rfl
theorem gm_accR {pl : Sem Bool} {Q : Value × List Value → Shared → Prop} (X : (KW w).In s.heap) (a : AccAt (KW w) s.heap x d xs nn k) (hf : findIn (KW w) (.ref 125) "reset" = some (some (.ref f))) (ht : typeIn (KW w) (.ref f) = some (.type "function"))
    (q : Q (.ref f, [.ref x]) s) : wpAny (model prog w) A (getMethod (.ref x) "reset" pl) Q E s := by
  obtain ⟨od, v, e1, _, _, _, H0, kt, rfl⟩ := a.size
  have I : InstAt s.heap x (accObj d xs nn) 125 (some (szObj H0 kt v)) := ⟨a.at_, rfl, rfl, e1⟩
  exact gm_K X I (acc_ga _) acc_can (acc_gn _) hf ht (.inl rfl) (fun o e => by cases e; rfl) q
theorem Fm.zz2 {P : MSp} (F : Fm H env X Z ((x, P) :: μ) ρ h) : H.get? x = none := F.zz _ F.head.1
/-- y = ring.pop() -/
theorem bl_popP {α : Type} {R : α → Sp} {items : List α} {a : α} {y : Str} {py apos pos spos : Pos} {o : Expr} {rest : List Stmt} {Q : Flow → Shared → Prop} (F : Fm H env X Z ((x, AccP d R (items ++ [a])) :: (d, SzO k) :: μ) ρ s.heap) (rm : Rm n A) (hn : 5 ≤ n) (ph : PH prog) (pf : PF (KW w) H)
    (he : IsM env o "pop" apos [] pos) (sw : swapsWith (.Call (.Attribute o "pop" apos) [] [] pos) (some (.Name y py)) spos.line env = pure false) (hl : items.length ≤ 900)
    (eo : EV prog w n [] env s.heap o (V (.ref x))) (mR : ∀ a, Mono (R a)) (hy : Stores env y)
    (q : ∀ s', Like s s' → Fm H env X Z ((x, AccP d R items) :: (d, SzO k) :: μ) ((y, R a) :: ρ) s'.heap → wpAny (model prog w) A (execs rest env) Q E s') :
    wpAny (model prog w) A (execs (.Assign [.Name y py] (.Call (.Attribute o "pop" apos) [] [] pos) spos :: rest) env) Q E s := by
  refine wpAny_execs_cons (wpAny_Assign_Name ?_ sw)
  refine wp_meth he (wp_ev (h := s.heap) (n := n) (Z := []) eo rm (Sub.refl _) fun ov s₁ k₁ e => ?_)
  cases e
  have F₁ := F.keep (ksub k₁)
  obtain ⟨xs1, n1, a1, hp1⟩ := F₁.acc (w := w)
  have p1 := pf.sub F₁.sub
  refine gm_acc p1.X a1 (acc_pop _) (acc_fn95 _) (by decide +kernel) ?_
  obtain ⟨⟨of, hof, hd⟩, _⟩ := (fnAt_of p1.X p1.nl (fnB_pop w.params)).1
  refine cw_fn (h := s₁.heap) hof hd A s₁ E _ pos [.ref x] [] (Sub.refl _) rfl (Calls.spliced_nil ⟨Sub.refl _, ?_⟩)
  have hs1 : xs1.size = items.length + 1 := by have := hp1.length; simp at this; lia
  obtain ⟨v, hv, hr⟩ := paired_get' hp1 (i := items.length) (a := a) (by simp)
  have hlast : xs1.toList.getLast? = some v := by rw [List.getLast?_eq_getElem?, Array.length_toList, hs1]; exact hv
  refine wpAny_call (mc_pop ph p1 (rm.le hn) a1 (by lia) hlast fun s₂ n' af a2 => ?_)
  have kh := after_hid af F₁.xZ
  have c2 : AccP d R items (hid Z s₂.heap) (accObj d (xs1.eraseIdxIfInBounds (xs1.size - 1)) n') := by
    refine ⟨_, _, rfl, ?_⟩
    have e : (xs1.eraseIdxIfInBounds (xs1.size - 1)).toList = xs1.toList.take items.length := by
      unfold Array.eraseIdxIfInBounds
      rw [dif_pos (by lia)]
      rw [Array.toList_eraseIdx, List.eraseIdx_eq_take_drop_succ]
      rw [hs1, List.drop_of_length_le (by simp; lia)]
      simp
    rw [e]
    have := paired_take items.length hp1
    rw [List.take_left] at this
    exact paired_imp (fun p v r => mR p _ _ _ kh r) this
  have F₂ := F₁.turn af.keep (mono_AccP mR _) a2.at_ c2
  exact st_name F₂ (mR a) (mR a _ _ _ kh hr) hy fun s₃ l₃ F₃ => q s₃ ((klike k₁).trans (af.like.trans l₃)) F₃
/-- y = ring.pop_from() -/
theorem bl_popfP {α : Type} {R : α → Sp} {items : List α} {y : Str} {py apos pos spos : Pos} {o : Expr} {rest : List Stmt} {Q : Flow → Shared → Prop} (F : Fm H env X Z ((x, AccP d R items) :: (d, SzO k) :: μ) ρ s.heap) (rm : Rm n A) (hn : 6 ≤ n) (pf : PF (KW w) H)
    (he : IsM env o "pop_from" apos [] pos) (sw : swapsWith (.Call (.Attribute o "pop_from" apos) [] [] pos) (some (.Name y py)) spos.line env = pure false) (hl : items.length ≤ 900)
    (eo : EV prog w n [] env s.heap o (V (.ref x))) (mR : ∀ a, Mono (R a)) (hy : Stores env y)
    (q : ∀ s', Like s s' → Fm H env X Z ((x, AccP d R []) :: (d, SzO k) :: μ) ((y, Ls R items) :: ρ) s'.heap → wpAny (model prog w) A (execs rest env) Q E s') :
    wpAny (model prog w) A (execs (.Assign [.Name y py] (.Call (.Attribute o "pop_from" apos) [] [] pos) spos :: rest) env) Q E s := by
  refine wpAny_execs_cons (wpAny_Assign_Name ?_ sw)
  refine wp_meth he (wp_ev (h := s.heap) (n := n) (Z := []) eo rm (Sub.refl _) fun ov s₁ k₁ e => ?_)
  cases e
  have F₁ := F.keep (ksub k₁)
  obtain ⟨xs1, n1, a1, hp1⟩ := F₁.acc (w := w)
  have p1 := pf.sub F₁.sub
  refine gm_acc p1.X a1 (acc_popf _) (acc_fn87 _) (by decide +kernel) ?_
  obtain ⟨⟨of, hof, hd⟩, _⟩ := (fnAt_of p1.X p1.nl (fnB_popf w.params)).1
  refine cw_fn (h := s₁.heap) hof hd A s₁ E _ pos [.ref x] [] (Sub.refl _) rfl (Calls.spliced_nil ⟨Sub.refl _, ?_⟩)
  obtain ⟨_, _, _, o1, e1, c1⟩ := F₁.head
  obtain ⟨_, _, _, od1, ed1, cd1⟩ := F₁.leave.head
  refine wpAny_call (mc_popfP pf F₁.sub F₁.zz2 F₁.leave.zz2 (rm.le hn) hl F₁.live F₁.xZ F₁.leave.xZ a1.ne.symm mR e1 c1 ed1 cd1 fun s₂ v o' od' l₂ kk e2 ed2 c2 cd2 hv => ?_)
  have F₂ := F₁.turn2 kk (mono_AccP mR _) e2 c2 (mono_SzO _) ed2 cd2
  exact st_name F₂ (mono_Ls mR _) hv hy fun s₃ l₃ F₃ => q s₃ ((klike k₁).trans (l₂.trans l₃)) F₃
/-- ring.reset(e) -/
theorem bl_resetP {α : Type} {R : α → Sp} {items new : List α} {o e1 : Expr} {apos pos spos : Pos} {rest : List Stmt} {Q : Flow → Shared → Prop} (F : Fm H env X Z ((x, AccP d R items) :: (d, SzO k) :: μ) ρ s.heap) (rm : Rm n A) (hn : 4 ≤ n) (pf : PF (KW w) H)
    (he : IsM env o "reset" apos [e1] pos) (ht : backTo pos (starEach [e1] env) = [(false, eval e1 env)]) (hi : interactive env = false) (sw : swapsWith (.Call (.Attribute o "reset" apos) [e1] [] pos) none spos.line env = pure false) (hl : items.length ≤ 900) (hl2 : new.length ≤ 900)
    (eo : EV prog w n [] env s.heap o (V (.ref x))) (ev1 : EV prog w n Z env s.heap e1 (Ls R new)) (mR : ∀ a, Mono (R a))
    (q : ∀ s', Like s s' → Fm H env X Z ((x, AccP d R new) :: (d, SzO 0) :: μ) ρ s'.heap → wpAny (model prog w) A (execs rest env) Q E s') :
    wpAny (model prog w) A (execs (.Expr (.Call (.Attribute o "reset" apos) [e1] [] pos) spos :: rest) env) Q E s := by
  refine wpAny_execs_cons (wpAny_Expr_any ?_ hi sw)
  refine wp_meth he (wp_ev (h := s.heap) (n := n) (Z := []) eo rm (Sub.refl _) fun ov s₁ k₁ e => ?_)
  cases e
  have F₁ := F.keep (ksub k₁)
  obtain ⟨xs1, n1, a1, _⟩ := F₁.acc (w := w)
  have p1 := pf.sub F₁.sub
  refine gm_accR p1.X a1 (acc_reset _) (acc_fn107 _) ?_
  obtain ⟨⟨of, hof, hd⟩, _⟩ := (fnAt_of p1.X p1.nl (fnB_reset w.params)).1
  refine cw_fn (h := s₁.heap) hof hd A s₁ E _ pos [.ref x] _ (Sub.refl _) (by rw [ht]; rfl) (wp_spl1 (n := n) (h := s.heap) (Z := Z) ht ev1 (mono_Ls mR _) rm (ksub k₁) fun v s₂ k₂ hv => ⟨ksub k₂, ?_⟩)
  have F₂ := F₁.keep (ksub k₂)
  obtain ⟨xs2, n2, a2, hp2⟩ := F₂.acc (w := w)
  have hs2 : xs2.size = items.length := by have := hp2.length; simp at this; lia
  refine wpAny_call (mc_reset pf F₂.sub F₂.zz2 F₂.leave.zz2 (rm.le hn) F₂.live F₂.xZ F₂.leave.xZ a2 (by lia) hv (by lia) mR fun s₃ xs3 n3 l₃ kk a3 hp3 => ?_)
  obtain ⟨od3, ed3, cd3⟩ := sizeD_szO (hz := hid Z s₃.heap) a3.size
  exact q s₃ (((klike k₁).trans (klike k₂)).trans l₃) (F₂.turn2 kk (mono_AccP mR _) a3.at_ ⟨_, _, rfl, hp3⟩ (mono_SzO _) ed3 cd3)
end
end
end
section
open PySem PySem.W PyProof.Rows
set_option Elab.async false
set_option maxRecDepth 100000
set_option linter.unusedVariables false
set_option maxHeartbeats 4000000
noncomputable section
section
variable {prog : Program} {w : World} {H : Heap} {X Z : List Addr} {μ : List (Addr × MSp)} {ρ : List (Str × Sp)} {env : Env} {A : Around} {E : Value → Shared → Prop} {s : Shared} {x d : Addr} {k0 : Int} {n nn : Nat} {xs : Array Value} {k : Int}
theorem len_acc2 {Q : Value → Shared → Prop} (X : (KW w).In s.heap) (a : AccAt (KW w) s.heap x d xs nn k)
    (h : wpAny (model prog w) A.in1 (call (.ref 92) [.ref x]) (fun r s' => ∃ i t, r = .int i t ∧ (0 ≤ i ∧ i < 2 ^ 63) ∧ Q (.int i s'.toks) { s' with toks := s'.toks + 1 }) E s) : wpAny (model prog w) A (call (.builtin "len") [.ref x]) Q E s := by
  obtain ⟨od, I, _⟩ := a.inst
  refine Calls.call_function_entry kind_len plain_len entry_len (args_len1 _) ?_
  unfold Builtin.«len»
  refine wpAny_bind (m := oneArg "len" _) (wpAny_pure ?_)
  refine wpAny_bind (m := callSpecial? (.ref x) (Str.ofString "__len__")) (special_fn X I (acc_len _) (acc_fn102 _) (wpAny_mono h (fun r s' hr => ?_) fun _ _ y => y))
  obtain ⟨i, t, rfl, ⟨h0, h1⟩, hq⟩ := hr
  refine wpAny_bind (wpAny_holding (wpAny_pure ?_))
  refine wpAny_bind (wpAny_letGo ?_)
  show wpAny _ _ (if i < 0 then _ else _) _ _ _
  rw [if_neg (by lia)]
  show wpAny _ _ (if i ≥ 2 ^ 63 then _ else _) _ _ _
  rw [if_neg (by lia)]
  exact wpAny_bind (wpAny_mkInt (wpAny_pure ⟨_, rfl, hq⟩))
theorem perm87 {α : Type} {a b c : α} {l : List α} : (a :: b :: c :: l).Perm (c :: a :: b :: l) := List.perm_middle (l₁ := [a, b])
theorem perm94 {α : Type} {a b c e : α} {l : List α} : (a :: b :: c :: e :: l).Perm (e :: a :: b :: c :: l) := List.perm_middle (l₁ := [a, b, c])
/-- len(ring) -/
theorem wp_lenP {items : List (List Nat × List Nat)} {m : Nat} {o : Expr} {pf' pos : Pos} {Q : Value → Shared → Prop} (F : Fm H env X Z ((x, AccP d (T2 Tl Tl) items) :: (d, SzO k0) :: (87, TabO) :: μ) ρ s.heap) (rm : Rm n A) (hn : 7 ≤ n) (pf : PF (KW w) H) (bm : BM H) (ge : GEnv env)
    (hg : env.kindOf (Str.ofString "len") = some .globalImplicit) (isn : IsN env (.Name (Str.ofString "len") pf') [o] pos) (ht : backTo pos (starEach [o] env) = [(false, eval o env)]) (eo : EV prog w n [] env s.heap o (V (.ref x)))
    (hsz : items.length ≤ 900) (hm : ∀ p ∈ items, p.1.length + p.2.length ≤ m) (hmm : m ≤ 1000000) (hk0 : 0 ≤ k0) (hk1 : k0 ≤ 1000000)
    (q : ∀ t s', LikeG s s' → Fm H env X Z ((x, AccP d (T2 Tl Tl) items) :: (d, SzO k0) :: (87, TabO) :: μ) ρ s'.heap → Q (.int (k0 + (lenSum items : Int)) t) s') :
    wpAny (model prog w) A (eval (.Call (.Name (Str.ofString "len") pf') [o] [] pos) env) Q E s := by
  rw [isn]
  have p0 := pf.sub F.sub
  refine wpAny_bind (wp_ev (h := s.heap) (n := n) (Z := []) (ev_glob ge (gn_len p0) hg (by decide +kernel)) rm (Sub.refl _) fun u s₁ k₁ e1 => ?_)
  cases e1
  refine cw_builtin (h := s₁.heap) A s₁ E _ pos [] _ (Sub.refl _) (by rw [ht]; rfl) (wp_spl1 (n := n) (h := s.heap) (Z := []) ht eo (flat_V _).mono rm (ksub k₁) fun v s₂ k₂ hv => ⟨ksub k₂, ?_⟩)
  cases hv
  have F₂ := (F.keep (ksub k₁)).keep (ksub k₂)
  have p2 := pf.sub F₂.sub
  have G₂ := F₂.perm perm87
  obtain ⟨_, _, _, ot, eot, ct⟩ := G₂.head
  obtain ⟨xs2, n2, a2, hp2⟩ := F₂.acc (w := w)
  refine len_acc2 p2.X a2 (wpAny_call (mc_len (m := m) p2 (bm.sub F₂.sub) ⟨rm.hh, ?_, ?_⟩ a2 (paired_imp (fun p v r => mono_T2 mono_Tl mono_Tl p _ _ _ (hid_sub Z _) r) hp2) hsz hm hmm hk0 hk1 ⟨ot, eot, ct⟩ fun s' t lg kk ⟨o', e', t'⟩ => ?_))
  · have := rm.depth; show A.depth + 6 < 1000; lia
  · have := rm.units; show A.units + 1 + 20 * 6 < 9900; lia
  · have hle := lenSum_le hm
    have h5 : items.length * m ≤ 900 * 1000000 := Nat.mul_le_mul hsz hmm
    refine ⟨_, _, rfl, ⟨by lia, by lia⟩, q _ _ (((klike k₁).trans (klike k₂)).g.trans (lg.trans ⟨rfl, rfl, id⟩)) ((G₂.turn (h' := s'.heap) kk mono_TabO e' t').perm perm87.symm)⟩
/-- str(ring) -/
theorem wp_strP {items : List (List Nat × List Nat)} {P : MSp} {o : Expr} {pf' pos : Pos} {Q : Value → Shared → Prop} (F : Fm H env X Z ((x, AccP d (T2 Tl Tl) items) :: (d, SzO k0) :: (87, P) :: (94, TabO) :: μ) ρ s.heap) (rm : Rm n A) (hn : 7 ≤ n) (pf : PF (KW w) H) (bm : BM H) (ge : GEnv env)
    (hg : env.kindOf (Str.ofString "str") = some .globalImplicit) (isn : IsN env (.Name (Str.ofString "str") pf') [o] pos) (ht : backTo pos (starEach [o] env) = [(false, eval o env)]) (eo : EV prog w n [] env s.heap o (V (.ref x)))
    (hsz : items.length ≤ 900) (hm : (strCat items).length ≤ 2 ^ 24)
    (q : ∀ v s', LikeG s s' → Fm H env X Z ((x, AccP d (T2 Tl Tl) items) :: (d, SzO k0) :: (87, P) :: (94, TabO) :: μ) ρ s'.heap → Tl (strCat items) s'.heap v → Q v s') :
    wpAny (model prog w) A (eval (.Call (.Name (Str.ofString "str") pf') [o] [] pos) env) Q E s := by
  rw [isn]
  have p0 := pf.sub F.sub
  refine wpAny_bind (wp_ev (h := s.heap) (n := n) (Z := []) (ev_glob ge (gn_str p0) hg (by decide +kernel)) rm (Sub.refl _) fun u s₁ k₁ e1 => ?_)
  cases e1
  refine cw_type (h := s₁.heap) A s₁ E _ pos [] _ (Sub.refl _) (by rw [ht]; rfl) (wp_spl1 (n := n) (h := s.heap) (Z := []) ht eo (flat_V _).mono rm (ksub k₁) fun v s₂ k₂ hv => ⟨ksub k₂, ?_⟩)
  cases hv
  have F₂ := (F.keep (ksub k₁)).keep (ksub k₂)
  have p2 := pf.sub F₂.sub
  have G₂ := F₂.perm perm94
  obtain ⟨_, _, _, ot, eot, ct⟩ := G₂.head
  obtain ⟨xs2, n2, a2, hp2⟩ := F₂.acc (w := w)
  obtain ⟨od, I, _⟩ := a2.inst
  have hun : A.in1.in1.units < cLine := by
    have := rm.units
    have e : A.in1.in1.units = A.units + 1 + 1 := rfl
    rw [e]
    unfold cLine
    lia
  refine kso_call hun p2.X I (acc_str _) (acc_fn99 _) (wpAny_call (mc_str p2 (bm.sub F₂.sub) ⟨rm.hh, ?_, ?_⟩ a2 (paired_imp (fun p v r => mono_T2 mono_Tl mono_Tl p _ _ _ (hid_sub Z _) r) hp2) hsz hm ⟨ot, eot, ct⟩ fun s' v lg kk ⟨o', e', t'⟩ hv => ?_))
  · have := rm.depth; show A.depth + 6 < 1000; lia
  · have := rm.units; show A.units + 1 + 1 + 20 * 6 < 9900; lia
  · obtain ⟨y, u, rfl, hy⟩ := hv
    exact q _ _ (((klike k₁).trans (klike k₂)).g.trans lg) ((G₂.turn (h' := s'.heap) kk mono_TabO e' t').perm perm94.symm) ⟨y, u, rfl, hy⟩
end
end
end
section
open PySem PySem.W PyProof.Rows
set_option Elab.async false
set_option maxRecDepth 100000
set_option linter.unusedVariables false
section
variable {prog : Program} {w : World} {H : Heap} {env : Env} {X Z Z0 : List Addr} {μ : List (Addr × MSp)} {ρ : List (Str × Sp)} {h h' : Heap} {A : Around} {E : Value → Shared → Prop} {s : Shared} {n : Nat}

noncomputable def picks {α : Type} (xs : List α) (lo hi st : Option Int) : List α :=
  (sliceRange (sliceBounds lo hi st xs.length).1 (sliceBounds lo hi st xs.length).2.1 (sliceBounds lo hi st xs.length).2.2).filterMap (xs[·]?)
theorem paired_fm {α β : Type} {F : α → β → Prop} {l : List α} {m : List β} (x : Paired F l m) : ∀ (is : List Nat), Paired F (is.filterMap (l[·]?)) (is.filterMap (m[·]?))
  | [] => .nil
  | i :: is => by
    rw [List.filterMap_cons, List.filterMap_cons]
    cases hl : l[i]? with
    | some a =>
      obtain ⟨v, hv, hr⟩ := paired_get' x hl
      rw [hv]; exact .cons hr (paired_fm x is)
    | none =>
      have : m[i]? = none := by rw [List.getElem?_eq_none_iff] at hl ⊢; have := x.length; lia
      rw [this]; exact paired_fm x is
theorem picks_len {α : Type} (xs : List α) (lo hi st) : (picks xs lo hi st).length ≤ xs.length := by
  have := slicePick_size_le ((List.replicate xs.length Value.none).toArray) lo hi st
  unfold slicePick at this
  rw [List.size_toArray, List.size_toArray, List.length_replicate] at this
  refine Nat.le_trans (Nat.le_of_eq ?_) this
  unfold picks
  have key : ∀ (is : List Nat), (is.filterMap (xs[·]?)).length = (is.filterMap ((List.replicate xs.length Value.none).toArray[·]?)).length := by
    intro is
    induction is with
    | nil => rfl
    | cons i is ih =>
      rw [List.filterMap_cons, List.filterMap_cons]
      by_cases hi : i < xs.length
      · rw [List.getElem?_eq_getElem hi]
        have : (List.replicate xs.length Value.none).toArray[i]? = some Value.none := by simp [hi]
        rw [this]
        simp [ih]
      · rw [List.getElem?_eq_none (by lia)]
        have : (List.replicate xs.length Value.none).toArray[i]? = none := by simp; lia
        rw [this]
        exact ih
  exact key _
theorem ev_picks {e1 e2 : Expr} {pos : Pos} {α : Type} {R : α → Sp} {xs : List α} {lo hi st : Option Int} (zl : Zl h Z) (x : EV prog w n Z env h e1 (Ls R xs)) (y : EV prog w n Z env h e2 (Sl lo hi st)) (mR : ∀ a, Mono (R a)) (hs : xs.length ≤ sizeLine) (h0 : st ≠ some 0) :
    EV prog w n Z env h (.Subscript e1 e2 pos) (Ls R (picks xs lo hi st)) := ev_subr x y (mono_Ls mR xs) fun A s E o i rm k' ho hq => by
  obtain ⟨l, vs, rfl, hl, hp⟩ := ho
  obtain ⟨a, u1, u2, u3, rfl, hs1, p1, p2, p3⟩ := hq
  have hn : vs.size = xs.length := by have := hp.length; simp at this; lia
  have hl' : s.heap.IsList l vs := (plainList_sub (hid_sub Z _) hl).isList
  have hs' : s.heap.IsSliceOf a u1 u2 u3 := let ⟨o, e, r⟩ := hs1; ⟨o, hid_sub Z _ _ _ e, r⟩
  refine ⟨⟨_, _, hl'.typeIs, slot_list_getitem.lookup⟩, wpAny_getItem_list_slice hl' hs' p1 p2 p3 h0 ⟨keeps_push s _ s.toks, _, _, rfl, ⟨0, fresh_hid (zl_sub zl k') (Heap.get?_push_size _ rfl)⟩, ?_⟩ (by rw [hn]; exact hs)⟩
  unfold slicePick
  rw [hn]
  refine paired_imp (fun _ _ r => mR _ _ _ _ (hid_sub_mono fun b o e => Heap.get?_push_of_some _ e) r) ?_
  have := paired_fm hp (sliceRange (sliceBounds lo hi st xs.length).1 (sliceBounds lo hi st xs.length).2.1 (sliceBounds lo hi st xs.length).2.2)
  simp only [Array.getElem?_toList] at this
  exact this
end

noncomputable def ckNames : List Str → Bool
  | [] => true
  | x :: r => !(r.any (· == x)) && ckNames r
theorem ck_lookup : ∀ {l : List (Str × Addr)}, ckNames (l.map (·.1)) = true → ∀ p ∈ l, l.lookup p.1 = some p.2
  | (x, a) :: r, h, p, hp => by
    rw [List.map_cons] at h
    unfold ckNames at h
    rw [Bool.and_eq_true] at h
    rcases List.mem_cons.mp hp with rfl | hp
    · simp
    · have hne : (p.1 == x) = false := by
        cases hb : p.1 == x with
        | false => rfl
        | true =>
          have : (r.map (·.1)).any (· == x) = true := List.any_eq_true.mpr ⟨p.1, List.mem_map_of_mem hp, hb⟩
          rw [this] at h; cases h.1
      rw [List.lookup_cons, hne]
      exact ck_lookup h.2 p hp
theorem cells_ok {names : List (Str × NameKind)} (h : ckNames ((cellsFrom 0 names []).map (·.1)) = true) (L : Addr) : ∀ p ∈ cellsFrom L names [], (cellsFrom L names []).lookup p.1 = some p.2 :=
  ck_lookup (by rw [cellsFrom_names names L 0 [] [] rfl]; exact h)

/-! ## _law_sums -/
noncomputable def sumsOf (xs bases : List Int) : List Int := (rgList 0 1 8).map fun k => bases.getD k.toNat 0 + ((picks xs (some k) none (some 8)).map fun x => x.fmod 1000000).sum

theorem sumsOf_len (xs bases : List Int) : (sumsOf xs bases).length = 8 := by simp [sumsOf, rgList]
theorem fmod_lo (x : Int) : 0 ≤ x.fmod 1000000 := Int.fmod_nonneg_of_pos x (by decide)
theorem fmod_hi (x : Int) : x.fmod 1000000 < 1000000 := Int.fmod_lt_of_pos x (by decide)
theorem sum_bd : ∀ (l : List Int), (∀ x ∈ l, 0 ≤ x ∧ x < 1000000) → 0 ≤ l.sum ∧ l.sum ≤ 1000000 * l.length
  | [], _ => ⟨by decide, by decide⟩
  | a :: l, h => by
    have h1 := h a (.head _)
    have h2 := sum_bd l fun x m => h x (.tail _ m)
    rw [List.sum_cons, List.length_cons]
    lia
theorem sumsOf_bd {xs bases : List Int} (hx : xs.length ≤ 63) (hb : ∀ k, 0 ≤ bases.getD k 0 ∧ bases.getD k 0 ≤ 100) : ∀ x ∈ sumsOf xs bases, 0 ≤ x ∧ x ≤ 63000100 := fun x m => by
  unfold sumsOf at m
  obtain ⟨k, _, rfl⟩ := List.mem_map.mp m
  have h1 := hb k.toNat
  have h2 := sum_bd ((picks xs (some k) none (some 8)).map fun x => x.fmod 1000000) fun y my => by
    obtain ⟨z, _, rfl⟩ := List.mem_map.mp my
    exact ⟨fmod_lo z, fmod_hi z⟩
  have h3 := picks_len xs (some k) none (some 8)
  rw [List.length_map] at h2
  lia
theorem fnB_sums (P : Params) : isFnB (K1 P) 151 = true := by kernel_rfl
section
variable {prog : Program} {w : World}
theorem pc_sums {h : Heap} (pf : PF (K1 w.params) h) {xs bases : List Int} (hx : xs.length ≤ 63) (hb : bases.length = 8) : PC prog w 6 h 151 [Ls I xs, Ls I bases] (Ls I (sumsOf xs bases)) := by
  intro A s Z vs R rm k zl x q
  obtain ⟨v1, v2, rfl, h1, h2⟩ := args2 x
  have pf' := pf.sub k
  obtain ⟨fa, hbd⟩ := fnAt_of pf'.X pf'.nl (fnB_sums _)
  refine enter_fn (n := 5) (Z := Z) (Xc := []) (μ := []) (ρ := [(Str.ofString "script", Ls I xs), (Str.ofString "bases", Ls I bases)]) (binds := [(Str.ofString "script", v1), (Str.ofString "bases", v2)]) rm fa hbd (by kernel_rfl) (by kernel_rfl) ?_ (by show [Str.ofString "script", Str.ofString "bases"].Nodup; decide +kernel) ?_ zl (by kernel_rfl) (by kernel_rfl) (by kernel_rfl) (by simp)
    (.cons h1 (mono_Ls mono_I _) (.cons h2 (mono_Ls mono_I _) .nil)) (by simp) (by simp) fun L s₁ E' hL rm' l₁ F sub => ?_
  · intro L x hx
    simp only [List.mem_cons, List.not_mem_nil, or_false] at hx
    rcases hx with rfl | rfl
    · exact .inr ⟨by kernel_rfl, by kernel_rfl⟩
    · exact .inr ⟨by kernel_rfl, by kernel_rfl⟩
  · exact cells_ok (by kernel_rfl)
  have ge : GEnv (callEnvC (fdOf (K1 w.params) 151) L 151) := ⟨by kernel_rfl, by kernel_rfl, by kernel_rfl⟩
  have p1 := pf'.sub sub
  refine bl_return (S := Ls I (sumsOf xs bases)) rm' (Z := L :: (cellAddrs L (fdOf (K1 w.params) 151).scope ++ Z)) ?_ fun v s' k' hv => q v s' ?_ ?_
  · unfold sumsOf
    refine ev_compn (R := I) (R' := I) (ρc := [(Str.ofString "script", Ls I xs), (Str.ofString "bases", Ls I bases)]) F.loc (by walk_at "ev") itr_range mono_I mono_I (by simp [rgList, sizeLine]) (by walk_at "sc") (by walk_at "cap") (fun _ => rfl) F.live fun i a C D I' h' ha k' l' zl' => ?_
    have p2 := p1.sub k'
    obtain ⟨ha0, ha5⟩ : 0 ≤ a ∧ a < 8 := by
      have := List.mem_of_getElem? ha
      simp [rgList] at this
      obtain ⟨j, hj, rfl⟩ := this
      lia
    refine ev_binr (ev_item (by walk_at "ev") (by walk_at "ev") mono_I ha0 (a := bases.getD a.toNat 0) ?_ (by lia)) (ev_call1 rfl rfl (by walk_at "ev") (by walk_at "cw") ?_ (mono_Ls mono_I _) call_sumints) (mono_I _) bin_add
    · rw [List.getD_eq_getElem?_getD]
      have : a.toNat < bases.length := by lia
      rw [List.getElem?_eq_getElem this]; rfl
    · refine ev_compn (R := I) (R' := I) (ρc := []) l' (ev_picks zl' (by walk_at "ev") (ev_slice zl' (evp_some (by walk_at "ev")) evp_none (evp_some (by walk_at "ev"))) mono_I (by simp [sizeLine]; lia) (by decide)) itr_list mono_I mono_I ?_ (by walk_at "sc") (by walk_at "cap") (fun _ => rfl) (List.forall_mem_nil _) fun i x C' D' I'' h'' hx' k'' l'' zl'' => ?_
      · have := picks_len xs (some a) none (some 8)
        simp [sizeLine]; lia
      · exact ev_binr (by walk_at "ev") (ev_binr (by walk_at "ev") (by walk_at "ev") (mono_I _) (bin_pow (by walk_at "ar") (by walk_at "ar") (by walk_at "ar"))) (mono_I _) (bin_mod (b := 1000000) (by decide))
  · obtain ⟨h1, tk1, e1⟩ := l₁
    obtain ⟨h2, tk2, e2, k2⟩ := k'
    subst e1 e2
    exact ⟨h2, tk2, rfl, sub.trans k2⟩
  · exact mono_Ls mono_I _ _ _ _ (hid_less fun a m => by simp [m]) hv
end
end
section
open PySem PySem.W PyProof.Rows
open PySem.Builtin PySem.Builtin.Str PySem.StrLaws
set_option Elab.async false
set_option maxRecDepth 100000
set_option linter.unusedVariables false
set_option maxHeartbeats 4000000
noncomputable section
section
variable {prog : Program} {w : World} {H : Heap} {env : Env} {X Z Z0 Z1 Z2 : List Addr} {μ : List (Addr × MSp)} {ρ : List (Str × Sp)} {h h' : Heap} {A : Around} {E : Value → Shared → Prop} {s : Shared} {n : Nat}
theorem wp_load {x : Str} {S : Sp} {Q : Value → Shared → Prop} (L : Loc env Z ρ h) (e : ρ.lookup x = some S) (k' : Sub h s.heap) (q : ∀ v, S (hid Z s.heap) v → Q v s) : wpAny (model prog w) A (loadName env x) Q E s := by
  obtain ⟨m, v, hv, hs⟩ := L.vars x S e
  have fin := q v (m _ _ _ (hid_sub_mono k') hs)
  cases hv.sub k' with
  | loc hl hn hm => exact wpAny_loadName_local L.kind hl hn hm fin
  | cell hl hc hv =>
    rcases hl with hl | ⟨hl, q⟩
    · exact wpAny_loadName_cell L.kind hl hc hv fin
    · exact wpAny_loadName_free L.kind hl hc hv fin q
/-- x += e, texts -/
theorem bl_augtl {x : Str} {px pos : Pos} {e : Expr} {a b : List Nat} {rest : List Stmt} {Q : Flow → Shared → Prop} (F : Fm H env X Z μ ρ s.heap) (rm : Rm n A) (hx : ρ.lookup x = some (Tl a)) (ev : EV prog w n [] env s.heap e (Tl b)) (hk : Stores env x) (hl : a.length + b.length ≤ sizeLine)
    (q : ∀ s', Like s s' → Fm H env X Z μ ((x, Tl (a ++ b)) :: ρ) s'.heap → wpAny (model prog w) A (execs rest env) Q E s') :
    wpAny (model prog w) A (execs (.AugAssign (.Name x px) .Add e pos :: rest) env) Q E s := by
  refine wpAny_execs_cons (wpAny_AugAssign_Name (wp_load F.loc hx (Sub.refl _) fun v hv => ?_))
  refine wp_ev (h := s.heap) (n := n) (Z := []) ev rm (Sub.refl _) fun u s₁ k₁ hu => ?_
  obtain ⟨x1, t1, rfl, q1⟩ := hv
  obtain ⟨x2, t2, rfl, q2⟩ := hu
  subst q1 q2
  refine SB.iadd (fun t' k => ?_) (by simpa [Str.length] using hl)
  have F₁ := F.keep (ksub k₁)
  exact st_name (s := { s₁ with toks := k }) F₁ (mono_Tl _) ⟨_, t', rfl, by show (x1.cps ++ x2.cps).toList = _; rw [Array.toList_append]⟩ hk fun s' l F' => q s' ((klike k₁).trans (Like.trans ⟨_, _, rfl⟩ l)) F'
theorem tw_len {α : Type} (g : α → Bool) : ∀ l : List α, l.drop (l.takeWhile g).length = l.dropWhile g
  | [] => rfl
  | a :: l => by
    rw [List.takeWhile_cons, List.dropWhile_cons]
    split
    · simpa using tw_len g l
    · rfl
theorem lstrip_list (x : Str) (c : Nat) : (Txt.lstripChars x ⟨#[c]⟩).cps.toList = x.cps.toList.dropWhile (· == c) := by
  have hg : ((#[c] : Array Nat).contains) = fun y => y == c := by funext y; simp; rw [Bool.eq_iff_iff]; simp
  have key : (PySem.stripped ((#[c] : Array Nat).contains) true false x).cps.toList = x.cps.toList.dropWhile (· == c) := by
    unfold PySem.stripped strSub stripHi stripLo
    simp only [if_true, Bool.false_eq_true, if_false, Array.toList_extract]
    rw [hg]
    have : (x.cps.toList.drop (List.takeWhile (fun y => y == c) x.cps.toList).length).take (x.length - (List.takeWhile (fun y => y == c) x.cps.toList).length) = x.cps.toList.dropWhile (· == c) := by
      rw [List.take_of_length_le (by rw [List.length_drop]; simp [Str.length]), tw_len]
    simpa [List.extract] using this
  show (if stripSame _ true false x = true then x else PySem.stripped _ true false x).cps.toList = _
  split
  · rename_i hs
    unfold stripSame at hs
    rw [Bool.and_eq_true] at hs
    have h0 : stripLo ((#[c] : Array Nat).contains) true x = 0 := by simpa using hs.1
    unfold stripLo at h0
    rw [if_pos rfl, hg] at h0
    have := tw_len (fun y => y == c) x.cps.toList
    rw [h0] at this
    exact this
  · exact key
theorem ev_lstrip {o e : Expr} {apos pos : Pos} {l : List Nat} {c : Nat} (hbase : attributeBase o "lstrip" env (eval o env) = eval o env) (hs : starEach [e] env = [(false, eval e env)]) (hline : (apos.endLine == pos.line) = true)
    (x : EV prog w n [] env h o (Tl l)) (y : EV prog w n [] env h e (Tl [c])) (hb : l.length ≤ sizeLine) : EV prog w n Z env h (.Call (.Attribute o "lstrip" apos) [e] [] pos) (Tl (l.dropWhile (· == c))) :=
  ev_methS meth_lstrip hbase hs hline x y fun A s E x' t v rm k hx ⟨y, u, e, hy⟩ => by
    subst e
    have hye : y = ⟨#[c]⟩ := by obtain ⟨d⟩ := y; exact congrArg Str.mk (Array.ext' hy)
    subst hye
    subst hx
    refine call_gives F.slot_str_lstrip (typeIs_str _ _ _) F.entry_str_lstrip (F.args_str_lstrip_2 _ _) (gives_str_lstrip_chars x' ⟨#[c]⟩ t u) (post_val_or_made (fun _ => fits_stripped _ _ _ (by simpa [Str.length] using hb)) fun t' k' => ?_)
    exact ⟨keeps_tok s k', _, t', rfl, lstrip_list x' c⟩
theorem cmp_in {k : Int} {xs : List Int} : CmpR prog w n .In (I k) (Ls I xs) (xs.any (· == k)) := fun A s Z1 Z2 E a c rm ⟨t, e⟩ ⟨l, vs, e', hl, hp⟩ => by
  subst e e'
  have hl' : s.heap.IsList l vs.toList.toArray := (plainList_sub (hid_sub Z2 _) hl).isList
  exact in_list_ints hl' (intsAre_of hp) ⟨keeps_refl s, rfl⟩
theorem cmp_notin {k : Int} {xs : List Int} : CmpR prog w n .NotIn (I k) (Ls I xs) (!(xs.any (· == k))) := fun A s Z1 Z2 E a c rm ⟨t, e⟩ ⟨l, vs, e', hl, hp⟩ => by
  subst e e'
  have hl' : s.heap.IsList l vs.toList.toArray := (plainList_sub (hid_sub Z2 _) hl).isList
  exact notin_list_ints hl' (intsAre_of hp) ⟨keeps_refl s, rfl⟩
theorem call_bytes {ns : List Int} (hr : ∀ n ∈ ns, 0 ≤ n ∧ n < 256) (hz : ns.length ≤ sizeLine) : CallR prog w n (.type "bytes") [Ls I ns] (By (byteArr ns)) := fun A s Z Zr E vs rm x => by
  obtain ⟨_, rfl, l, ws, rfl, hl, hp⟩ := args1 x
  have hl' : s.heap.IsList l ws.toList.toArray := (plainList_sub (hid_sub Z _) hl).isList
  refine call_bytes_ints hl' (intsAre_of hp) hr (by rw [← hp.length]; exact hz) rm.hh fun h' t k hk => ⟨⟨h', k, rfl, hk⟩, t, rfl⟩
theorem cmp_ne_by {a b : Array UInt8} : CmpR prog w n .NotEq (By a) (By b) (a.toList != b.toList) := fun A s _ _ E v u _ ⟨t, e⟩ ⟨t', e'⟩ => by subst e e'; exact PySem.W.ne_bytes ⟨keeps_refl s, rfl⟩
end
end
end
section
open PySem PySem.W PyProof.Rows
set_option Elab.async false
set_option maxRecDepth 100000
set_option linter.unusedVariables false
set_option maxHeartbeats 4000000
noncomputable section
/-! ## _law_places, plain -/
theorem mul_ok {a b : Int} (h : a.natAbs < 1000000000) : IntMulOk a b := .of_left (intBits_le_64 (by lia) (by lia))
theorem fmod_nat (a b : Nat) : ((a : Int).fmod (b : Int)) = ((a % b : Nat) : Int) := by
  rw [Int.fmod_eq_emod_of_nonneg _ (by lia)]; rfl
noncomputable def toN (l : List Nat) : List Int := l.map fun (k : Nat) => (k : Int)
theorem toN_get {l : List Nat} {i : Nat} (h : i < l.length) : (toN l)[i]? = some ((l.getD i 0 : Nat) : Int) := by
  unfold toN
  rw [List.getElem?_map, List.getElem?_eq_getElem h, List.getD_eq_getElem?_getD, List.getElem?_eq_getElem h]
  rfl
theorem toN_len (l : List Nat) : (toN l).length = l.length := by simp [toN]
noncomputable def bareP (n t κ k : Nat) : Bool := if t < n then decide (κ < k) else k == κ
noncomputable def kindP (kinds : List Nat) (t : Nat) : Nat := kinds.getD (t % kinds.length) 0
noncomputable def stepC (kinds : List Nat) (t : Nat) (cs : List Nat) : List Nat := cs.mapIdx fun k c => if bareP kinds.length t (kindP kinds t) k = true then c + 1 else c
noncomputable def csP (kinds : List Nat) : Nat → List Nat
  | 0 => [1, 1, 1, 1]
  | t + 1 => stepC kinds t (csP kinds t)
noncomputable def plP (kinds : List Nat) : Nat → List Nat
  | 0 => []
  | t + 1 => if kinds.length ≤ t then plP kinds t ++ [(csP kinds t).getD (kindP kinds t) 0 - 1] else plP kinds t
noncomputable def placesP (kinds : List Nat) : List Nat := plP kinds (2 * kinds.length)
noncomputable def rowsP (t : Nat) (cs : List Nat) : List (List Nat) := cs.map (fun c => List.replicate c 46) ++ (if t = 0 then [] else [[]])
noncomputable def itemP (n t κ : Nat) (cs : List Nat) (k : Nat) : List Nat × List Nat := ((if bareP n t κ k = true then [] else [12]) ++ List.replicate (cs.getD k 0) 46, ends3.getD ((k + t) % 3) [])
noncomputable def itemsP (n t κ : Nat) (cs : List Nat) : List (List Nat × List Nat) := (List.range 4).map (itemP n t κ cs)
noncomputable def catI (l : List (List Nat × List Nat)) : List Nat := l.flatMap fun p => p.1 ++ p.2
structure COk (t : Nat) (cs : List Nat) : Prop where
  len : cs.length = 4
  pos : ∀ c ∈ cs, 1 ≤ c
  le : ∀ c ∈ cs, c ≤ t + 1
theorem cok_step {kinds cs : List Nat} {t : Nat} (h : COk t cs) : COk (t + 1) (stepC kinds t cs) := by
  unfold stepC
  refine ⟨by simp [h.len], fun c m => ?_, fun c m => ?_⟩
  all_goals
    obtain ⟨i, hi, rfl⟩ := List.mem_iff_getElem.mp m
    rw [List.getElem_mapIdx]
    have := h.pos _ (List.getElem_mem (by simpa using hi))
    have := h.le _ (List.getElem_mem (by simpa using hi))
    split <;> lia
theorem cok (kinds : List Nat) : ∀ t, COk t (csP kinds t)
  | 0 => ⟨rfl, by simp [csP], by simp [csP]⟩
  | t + 1 => cok_step (cok kinds t)
theorem four {cs : List Nat} (h : cs.length = 4) : ∃ a b c d, cs = [a, b, c, d] := by
  match cs, h with
  | [a, b, c, d], _ => exact ⟨a, b, c, d, rfl⟩
theorem rep_clean (c : Nat) : Clean (List.replicate c 46) := fun x m => by
  rw [(List.mem_replicate.mp m).2]; decide
theorem item_clean (n t κ : Nat) (cs : List Nat) (k : Nat) : Clean (itemP n t κ cs k).1 := fun x m => by
  unfold itemP at m
  rcases List.mem_append.mp m with m | m
  · split at m
    · cases m
    · rw [List.mem_singleton.mp m]; decide
  · exact rep_clean _ x m
theorem item_ne {n t κ : Nat} {cs : List Nat} {k : Nat} (hk : k < 4) (h : COk t cs) : (itemP n t κ cs k).1 ≠ [] := by
  have hp : 1 ≤ cs.getD k 0 := by
    rw [List.getD_eq_getElem?_getD, List.getElem?_eq_getElem (by have := h.len; lia)]
    exact h.pos _ (List.getElem_mem _)
  intro q
  unfold itemP at q
  dsimp only at q
  rw [List.append_eq_nil_iff] at q
  have := congrArg List.length q.2
  rw [List.length_replicate, List.length_nil] at this
  lia
theorem items_okM {n t κ : Nat} {cs : List Nat} (h : COk t cs) : okM (itemsP n t κ cs) [] := by
  refine okM_of (fun p m => ?_) (fun c m => nomatch m) fun i p p' _ e2 _ e4 => ?_
  · obtain ⟨k, _, rfl⟩ := List.mem_map.mp m
    exact ⟨item_clean _ _ _ _ _, ends3_end _⟩
  · obtain ⟨k, hk, rfl⟩ := List.mem_map.mp (List.mem_of_getElem? e2)
    exact absurd e4 (item_ne (by simpa using hk) h)
theorem mailT_nil (l : List (List Nat × List Nat)) : mailT l [] = catI l := by
  have := mailT_app l [] []
  rw [List.append_nil] at this
  rw [this]; simp [mailT, catI]
noncomputable def sentP (n t κ : Nat) (cs : List Nat) : List (List Nat) := (cs.mapIdx fun k c => if bareP n t κ k = true then List.replicate (c + 1) 46 else 12 :: List.replicate c 46) ++ [[]]
theorem dot1_rep {c : Nat} (h : 1 ≤ c) : dot1 (List.replicate c 46) = List.replicate (c + 1) 46 := dot1_clock c (by lia)
theorem sent_eq {n t κ : Nat} {cs : List Nat} (h : COk t cs) : ((itemsP n t κ cs).map (fun p : List Nat × List Nat => p.1) ++ [[]]).map dot1 = sentP n t κ cs := by
  obtain ⟨a, b, c, d, rfl⟩ := four h.len
  have ha := h.pos a (by simp)
  have hb := h.pos b (by simp)
  have hc := h.pos c (by simp)
  have hd := h.pos d (by simp)
  unfold sentP itemsP itemP
  have key : ∀ (bb : Bool) (x : Nat), 1 ≤ x → dot1 ((if bb = true then ([] : List Nat) else [12]) ++ List.replicate x 46) = if bb = true then List.replicate (x + 1) 46 else 12 :: List.replicate x 46 := fun bb x hx => by
    cases bb with
    | true => exact dot1_rep hx
    | false => rfl
  have e4 : dot1 [] = [] := rfl
  have e0 := key (bareP n t κ 0) a ha
  have e1 := key (bareP n t κ 1) b hb
  have e2 := key (bareP n t κ 2) c hc
  have e3 := key (bareP n t κ 3) d hd
  show [dot1 ((if bareP n t κ 0 = true then ([] : List Nat) else [12]) ++ List.replicate a 46), dot1 ((if bareP n t κ 1 = true then ([] : List Nat) else [12]) ++ List.replicate b 46), dot1 ((if bareP n t κ 2 = true then ([] : List Nat) else [12]) ++ List.replicate c 46), dot1 ((if bareP n t κ 3 = true then ([] : List Nat) else [12]) ++ List.replicate d 46), dot1 []] = _
  rw [e0, e1, e2, e3, e4]
  rfl
theorem quote_items {n t κ : Nat} {cs : List Nat} (h : COk t cs) : quote (catI (itemsP n t κ cs)) = joinRows (sentP n t κ cs) := by
  rw [← mailT_nil, quote_mail (items_okM h), sent_eq h]
theorem strip_rep (c : Nat) : (List.replicate c 46).dropWhile (· == 12) = List.replicate c 46 := by
  cases c with
  | zero => rfl
  | succ c => rfl
theorem strip_sent {kinds cs : List Nat} {t : Nat} : (sentP kinds.length t (kindP kinds t) cs).map (fun r => r.dropWhile (· == 12)) = rowsP (t + 1) (stepC kinds t cs) := by
  unfold sentP rowsP stepC
  rw [List.map_append, if_neg (by lia)]
  congr 1
  apply List.ext_getElem?
  intro k
  rw [List.getElem?_map, List.getElem?_map, List.getElem?_mapIdx, List.getElem?_mapIdx]
  cases cs[k]? with
  | none => rfl
  | some c =>
    show some (List.dropWhile _ _) = some (List.replicate (ite _ _ _) 46)
    cases bareP kinds.length t (kindP kinds t) k with
    | true => exact congrArg some (strip_rep (c + 1))
    | false => exact congrArg some (strip_rep c)
theorem ends3_len (i : Nat) : (ends3.getD (i % 3) []).length ≤ 2 := by
  rcases ends3_end i with h | h | h <;> rw [h] <;> decide
theorem ends3_get (i : Nat) : ends3[i % 3]? = some (ends3.getD (i % 3) []) := by
  have : i % 3 < 3 := Nat.mod_lt _ (by decide)
  rw [List.getD_eq_getElem?_getD, List.getElem?_eq_getElem (show i % 3 < ends3.length from this)]; rfl
theorem getD_le {t : Nat} {cs : List Nat} (h : COk t cs) (k : Nat) : cs.getD k 0 ≤ t + 1 := by
  rw [List.getD_eq_getElem?_getD]
  cases e : cs[k]? with
  | none => simp
  | some c => exact h.le c (List.mem_of_getElem? e)
theorem item_len {n t κ : Nat} {cs : List Nat} {k : Nat} (h : COk t cs) : (itemP n t κ cs k).1.length + (itemP n t κ cs k).2.length ≤ t + 4 := by
  have h1 := getD_le h k
  have h2 := ends3_len (k + t)
  unfold itemP
  dsimp only
  rw [List.length_append, List.length_replicate]
  have : (if bareP n t κ k = true then ([] : List Nat) else [12]).length ≤ 1 := by split <;> simp
  lia
theorem cat_len {n t κ : Nat} {cs : List Nat} (h : COk t cs) : ∀ l : List Nat, (catI (l.map (itemP n t κ cs))).length ≤ l.length * (t + 4)
  | [] => by simp [catI]
  | k :: l => by
    have h1 := item_len (n := n) (κ := κ) (k := k) h
    have h2 := cat_len (n := n) (κ := κ) h l
    unfold catI at h2 ⊢
    rw [List.map_cons, List.flatMap_cons, List.length_append, List.length_append, List.length_cons]
    have : (l.length + 1) * (t + 4) = l.length * (t + 4) + (t + 4) := by rw [Nat.add_mul, Nat.one_mul]
    lia
theorem rows_get {t : Nat} {cs : List Nat} {k : Nat} (h : COk t cs) (hk : k < 4) : (rowsP t cs)[k]? = some (List.replicate (cs.getD k 0) 46) := by
  have hl := h.len
  unfold rowsP
  rw [List.getElem?_append_left (by simp; lia), List.getElem?_map, List.getD_eq_getElem?_getD, List.getElem?_eq_getElem (by lia)]
  rfl
theorem sent_no13 {n t κ : Nat} {cs : List Nat} : ∀ r ∈ sentP n t κ cs, 13 ∉ r := fun r m h13 => by
  unfold sentP at m
  rcases List.mem_append.mp m with m | m
  · obtain ⟨i, hi, rfl⟩ := List.mem_iff_getElem.mp m
    rw [List.getElem_mapIdx] at h13
    split at h13
    · exact absurd (List.mem_replicate.mp h13).2 (by decide)
    · rcases List.mem_cons.mp h13 with q | q
      · exact absurd q (by decide)
      · exact absurd (List.mem_replicate.mp q).2 (by decide)
  · rw [List.mem_singleton.mp m] at h13; cases h13
theorem sent_lens {n t κ : Nat} {cs : List Nat} (h : COk t cs) : (sentP n t κ cs).length = 5 ∧ ∀ r ∈ sentP n t κ cs, r.length ≤ t + 2 := by
  refine ⟨by unfold sentP; simp [h.len], fun r m => ?_⟩
  unfold sentP at m
  rcases List.mem_append.mp m with m | m
  · obtain ⟨i, hi, rfl⟩ := List.mem_iff_getElem.mp m
    rw [List.getElem_mapIdx]
    have := h.le _ (List.getElem_mem (by simpa using hi))
    split <;> simp <;> lia
  · rw [List.mem_singleton.mp m]; simp
theorem joinRows_len : ∀ {rs : List (List Nat)} {m : Nat}, (∀ r ∈ rs, r.length ≤ m) → (joinRows rs).length ≤ rs.length * (m + 2)
  | [], m, h => by simp [joinRows]
  | [r], m, h => by have := h r (.head _); show r.length ≤ _; simp only [List.length_cons, List.length_nil]; lia
  | r :: a :: b, m, h => by
    have h1 := h r (.head _)
    have h2 := joinRows_len (rs := a :: b) fun r m => h r (.tail _ m)
    rw [joinRows_cons r (by simp), List.length_append, List.length_cons, List.length_cons, List.length_cons]
    have : ((a :: b).length + 1) * (m + 2) = (a :: b).length * (m + 2) + (m + 2) := by rw [Nat.add_mul, Nat.one_mul]
    lia
theorem cat_take (n t κ : Nat) (cs : List Nat) (k : Nat) (hk : k < 4) : catI ((List.range (k + 1)).map (itemP n t κ cs)) = catI ((List.range k).map (itemP n t κ cs)) ++ ((itemP n t κ cs k).1 ++ (itemP n t κ cs k).2) := by
  rw [List.range_succ, List.map_append]
  unfold catI
  rw [List.flatMap_append]
  simp
end
end
section
open PySem PySem.W PyProof.Rows
set_option Elab.async false
set_option maxRecDepth 100000
set_option linter.unusedVariables false
set_option maxHeartbeats 4000000
noncomputable section
noncomputable def forBody : Option Stmt → List Stmt | some (.For _ _ b _ _) => b | _ => []
noncomputable def plBody (P : Params) : List Stmt := forBody (bodyOf (fdOf (K1 P) 156))[3]?
theorem fnB_pl (P : Params) : isFnB (K1 P) 156 = true := by kernel_rfl
noncomputable abbrev plEnv (w : World) (L : Nat) : Env := callEnvC (fdOf (K1 w.params) 156) L 156
section
variable {prog : Program} {w : World} {H : Heap} {X Z : List Addr} {μ : List (Addr × MSp)} {A : Around} {E : Value → Shared → Prop} {s : Shared} {kinds : List Nat} {n t L : Nat} {r : Addr} {Q : Flow → Shared → Prop}
theorem ev_list4 {env : Env} {h : Heap} {Z : List Addr} {e1 e2 e3 e4 : Expr} {pos : Pos} {α : Type} {R : α → Sp} {a b c d : α} (zl : Zl h Z) (ht : backTo pos (starEach [e1, e2, e3, e4] env) = [(false, eval e1 env), (false, eval e2 env), (false, eval e3 env), (false, eval e4 env)]) (x1 : EV prog w n Z env h e1 (R a)) (x2 : EV prog w n Z env h e2 (R b)) (x3 : EV prog w n Z env h e3 (R c)) (x4 : EV prog w n Z env h e4 (R d)) (mR : ∀ a, Mono (R a)) : EV prog w n Z env h (.List [e1, e2, e3, e4] pos) (Ls R [a, b, c, d]) :=
  ev_list (xs := [a, b, c, d]) zl ht (.cons x1 (mR _) (.cons x2 (mR _) (.cons x3 (mR _) (.cons x4 (mR _) .nil)))) (by simp [sizeLine]) mR
theorem evb_bo {env : Env} {h : Heap} {Z : List Addr} {e : Expr} {b : Bool} (ev : EV prog w n Z env h e (Bo b)) (he : isTrue e env (eval e env) = (do let v ← eval e env; standAt e.pos; holding [v] (truthy v))) : EVb prog w n env h e b :=
  evb_of ev he fun A s E v rm e => by cases e; exact wpAny_truthy_bool ⟨rfl, keeps_refl s⟩
/-- the names as a turn begins -/
noncomputable abbrev plσ (kinds : List Nat) (r : Addr) : List (Str × Sp) := [(Str.ofString "kinds", Ls I (toN kinds)), (Str.ofString "ends", Ls Tl ends3), (Str.ofString "places", V (.ref r))]
noncomputable abbrev plρ (kinds : List Nat) (r : Addr) (t : Nat) : List (Str × Sp) := (Str.ofString "rows", Ls Tl (rowsP t (csP kinds t))) :: plσ kinds r
theorem kindP_get (hn : 1 ≤ kinds.length) (t : Nat) : (toN kinds)[t % kinds.length]? = some ((kindP kinds t : Nat) : Int) := toN_get (Nat.mod_lt _ hn)
theorem kindP_lt (hk : ∀ k ∈ kinds, k < 4) (t : Nat) : kindP kinds t < 4 := by
  unfold kindP
  rw [List.getD_eq_getElem?_getD]
  cases e : kinds[t % kinds.length]? with
  | none => simp
  | some k => exact hk k (List.mem_of_getElem? e)
/-- mail = '' .. the mail is written -/
theorem pl_mail (F : Fm H (plEnv w L) X Z μ ((Str.ofString "kind", I (kindP kinds t)) :: (Str.ofString "turn", I t) :: plρ kinds r t) s.heap) (rm : Rm 6 A) (pf : PF (KW w) H) (hn : 1 ≤ kinds.length) (hn8 : kinds.length ≤ 8) (ht : t < 16)
    (q : ∀ s', Like s s' → Fm H (plEnv w L) X Z μ ((Str.ofString "rows", Ls Tl (rowsP (t + 1) (csP kinds (t + 1)))) :: plσ kinds r) s'.heap → Q .next s') :
    wpAny (model prog w) A (execs ((plBody w.params).drop 2) (plEnv w L)) Q E s := by
  have ge : GEnv (plEnv w L) := ⟨by kernel_rfl, by kernel_rfl, by kernel_rfl⟩
  have ok := cok kinds t
  refine' bl_assign (S := Tl []) F rm (ev_tl rfl) (mono_Tl _) (.inl (by kernel_rfl)) (by kernel_rfl) fun s₁ l₁ F₁ => ?_
  have p1 := pf.sub F₁.sub
  have F₁' := F₁.sel (ρ' := (Str.ofString "mail", Tl []) :: (Str.ofString "kind", I (kindP kinds t)) :: (Str.ofString "turn", I t) :: (Str.ofString "rows", Ls Tl (rowsP t (csP kinds t))) :: plσ kinds r) (by walk_at "sel")
  refine bl_for (R := I) (xs := rgList 0 1 4) (S := Rg 0 1 ((4 : Int)).toNat) (μ := fun _ => μ)
    (ρ := fun i => (Str.ofString "mail", Tl (catI ((List.range i).map (itemP kinds.length t (kindP kinds t) (csP kinds t))))) :: (Str.ofString "kind", I (kindP kinds t)) :: (Str.ofString "turn", I t) :: (Str.ofString "rows", Ls Tl (rowsP t (csP kinds t))) :: plσ kinds r)
    (ρt := fun i a => (Str.ofString "k", I a) :: (Str.ofString "mail", Tl (catI ((List.range i).map (itemP kinds.length t (kindP kinds t) (csP kinds t))))) :: (Str.ofString "kind", I (kindP kinds t)) :: (Str.ofString "turn", I t) :: (Str.ofString "rows", Ls Tl (rowsP t (csP kinds t))) :: plσ kinds r)
    F₁' rm (by walk_at "ev") itr_range mono_I (fun _ => rfl) (fun _ => rfl) (fun i a u I' P H' s' E' ha hR kH F' => tgt_name F' (mono_I _) hR (.inl (by kernel_rfl)) fun s'' l'' F'' => ⟨l'', F''⟩) (fun i a I' P H' s' E' ha kH l' F' => ?_) fun s₂ l₂ F₂ => ?_
  · have pf' := pf.sub kH
    have p' := pf'.sub F'.sub
    obtain ⟨hi4, rfl⟩ : i < 4 ∧ a = (i : Int) := by
      have h1 := ha
      unfold rgList at h1
      rw [List.getElem?_map] at h1
      by_cases hi : i < 4
      · rw [List.getElem?_range hi] at h1
        cases h1
        exact ⟨hi, by show (0 : Int) + (i : Int) * 1 = i; lia⟩
      · rw [List.getElem?_eq_none (by simpa using hi)] at h1; cases h1
    refine' bl_assign (S := Bo (bareP kinds.length t (kindP kinds t) i)) F' rm ?_ (flat_Bo _).mono (.inl (by kernel_rfl)) (by kernel_rfl) fun s₂ l₂ F₂ => ?_
    · refine ev_if (b := decide ((t : Int) < ((toN kinds).length : Nat))) (evb_cmpr (Z1 := []) (Z2 := []) (by walk_at "ev") (ev_call1 rfl rfl (by walk_at "ev") (by walk_at "cw") (by walk_at "ev") (mono_Ls mono_I _) (call_lenlist (by rw [toN_len]; lia))) (mono_I _) (by kernel_rfl) cmp_lt) (fun hb => ?_) (fun hb => ?_)
      · have hb' : t < kinds.length := by have := of_decide_eq_true hb; rw [toN_len] at this; lia
        have e : bareP kinds.length t (kindP kinds t) i = decide ((i : Int) > (kindP kinds t : Int)) := by
          unfold bareP; rw [if_pos hb']; exact decide_eq_decide.mpr (by lia)
        rw [e]
        exact ev_cmp (Z1 := []) (Z2 := []) (S1 := I i) (S2 := I (kindP kinds t)) (by walk_at "ev") (by walk_at "ev") (mono_I _) (by kernel_rfl) (fun A s E a c rm h1 h2 => cmp_gt A s [] [] E a c rm h1 h2)
      · have hb' : ¬ t < kinds.length := by have := of_decide_eq_false hb; rw [toN_len] at this; lia
        have e : bareP kinds.length t (kindP kinds t) i = ((i : Int) == (kindP kinds t : Int)) := by
          unfold bareP; rw [if_neg hb', Bool.eq_iff_iff, beq_iff_eq, beq_iff_eq]; lia
        rw [e]
        exact ev_cmp (Z1 := []) (Z2 := []) (S1 := I i) (S2 := I (kindP kinds t)) (by walk_at "ev") (by walk_at "ev") (mono_I _) (by kernel_rfl) (fun A s E a c rm h1 h2 => cmp_eq A s [] [] E a c rm h1 h2)
    · have hlen := cat_len (n := kinds.length) (κ := kindP kinds t) ok (List.range i)
      have hil := item_len (n := kinds.length) (κ := kindP kinds t) (k := i) ok
      rw [List.length_range] at hlen
      have hm : i * (t + 4) ≤ 4 * 20 := Nat.mul_le_mul (by lia) (by lia)
      refine' bl_augtl (a := catI ((List.range i).map (itemP kinds.length t (kindP kinds t) (csP kinds t)))) (b := (itemP kinds.length t (kindP kinds t) (csP kinds t) i).1 ++ (itemP kinds.length t (kindP kinds t) (csP kinds t) i).2) F₂ rm (by walk_at "lk") ?_ (.inl (by kernel_rfl)) ?_ fun s₃ l₃ F₃ => bl_nil ⟨.inl rfl, l₂.trans l₃, ?_⟩
      · refine ev_binr (ev_binr (S1 := Tl (if bareP kinds.length t (kindP kinds t) i = true then [] else [12])) (S2 := Tl (List.replicate ((csP kinds t).getD i 0) 46)) (ev_if (b := bareP kinds.length t (kindP kinds t) i) (evb_bo (Z := []) (by walk_at "ev") (by kernel_rfl)) (fun hb => ?_) (fun hb => ?_)) (ev_item (k := (i : Int)) (by walk_at "ev") (by walk_at "ev") mono_Tl (by lia) (rows_get ok hi4) (by lia)) (mono_Tl _) (bin_addtl ?_)) (ev_item (k := (((i + t) % 3 : Nat) : Int)) (by walk_at "ev") (EV.eqI (fmod_nat (i + t) 3) ?_) mono_Tl (by lia) (ends3_get (i + t)) (by lia)) (mono_Tl _) (bin_addtl ?_)
        · rw [if_pos hb]; exact ev_tl rfl
        · rw [if_neg (by rw [hb]; exact Bool.false_ne_true)]; exact ev_tl rfl
        · have : (if bareP kinds.length t (kindP kinds t) i = true then ([] : List Nat) else [12]).length ≤ 1 := by split <;> simp
          have := getD_le ok i
          rw [List.length_replicate]
          show _ ≤ 16777216
          lia
        · have e : (((i + t : Nat) : Int)) = (i : Int) + (t : Int) := by lia
          rw [e]
          walk_at "ev"
        · show _ ≤ 16777216
          have : (itemP kinds.length t (kindP kinds t) (csP kinds t) i).1.length + (ends3.getD ((i + t) % 3) []).length ≤ t + 4 := hil
          unfold itemP at this
          dsimp only at this
          lia
      · show _ ≤ 16777216
        rw [List.length_append]; lia
      · rw [cat_take _ _ _ _ _ hi4]
        exact F₃.sel (by walk_at "sel")
  have hl4 : (rgList 0 1 4).length = 4 := rfl
  rw [hl4] at F₂
  have p2 := pf.sub F₂.sub
  have hcat := cat_len (n := kinds.length) (κ := kindP kinds t) ok (List.range 4)
  rw [List.length_range] at hcat
  have hcat2 : 4 * (t + 4) ≤ 4 * 20 := Nat.mul_le_mul (by lia) (by lia)
  have hsl := sent_lens (n := kinds.length) (κ := kindP kinds t) ok
  -- rows = [..]
  refine bl_compn (R := Tl) (R' := Tl) (f := fun r => r.dropWhile (· == 12)) (ρc := []) F₂ rm (S := Ls Tl (sentP kinds.length t (kindP kinds t) (csP kinds t))) ?_ itr_list mono_Tl mono_Tl (by rw [hsl.1]; decide) (by walk_at "sc") (by walk_at "cap") (fun _ => rfl) (.inl (by kernel_rfl)) (by kernel_rfl) (fun i a C D I' h' hk k' l' zl' => ?_) fun s₃ l₃ F₃ => bl_nil (q s₃ (l₁.trans (l₂.trans l₃)) ?_)
  · refine ev_split F₂.live (by kernel_rfl) (by kernel_rfl) (by kernel_rfl) ?_ (ev_tl rfl) (fun e => ?_) sent_no13 ?_
    · refine EV.to ?_ (congrArg Tl (quote_items (n := kinds.length) (κ := kindP kinds t) ok))
      exact ev_pc1 (S1 := Tl (catI ((List.range 4).map (itemP kinds.length t (kindP kinds t) (csP kinds t))))) rfl rfl (by walk_at "ev") (fnAt_of p2.X p2.nl (fnB_qd w.params)).1 (List.forall_mem_nil _) (by walk_at "ev") (mono_Tl _) ((pc_qd p2 (by lia)).le (by lia))
    · have := congrArg List.length e
      rw [hsl.1] at this; cases this
    · have h1 := joinRows_len hsl.2
      rw [hsl.1] at h1
      have h3 : 5 * (t + 2 + 2) ≤ 5 * 20 := Nat.mul_le_mul_left 5 (by lia)
      lia
  · have hal := hsl.2 a (List.mem_of_getElem? hk)
    exact ev_lstrip (by kernel_rfl) (by kernel_rfl) (by kernel_rfl) (by walk_at "ev") (ev_tl rfl) (by show _ ≤ 16777216; lia)
  · have e : (sentP kinds.length t (kindP kinds t) (csP kinds t)).map (fun r => r.dropWhile (· == 12)) = rowsP (t + 1) (csP kinds (t + 1)) := by
      rw [strip_sent, csP]
    rw [e] at F₃
    exact F₃.sel (by walk_at "sel")
theorem pl_turn (F : Fm H (plEnv w L) X Z ((r, OL I (toN (plP kinds t))) :: μ) ((Str.ofString "turn", I t) :: plρ kinds r t) s.heap) (rm : Rm 6 A) (pf : PF (KW w) H) (hn : 1 ≤ kinds.length) (hn8 : kinds.length ≤ 8) (hk : ∀ k ∈ kinds, k < 4) (ht : t < 16) (hpl : (plP kinds t).length ≤ 16)
    (q : ∀ s', Like s s' → Fm H (plEnv w L) X Z ((r, OL I (toN (plP kinds (t + 1)))) :: μ) (plρ kinds r (t + 1)) s'.heap → Q .next s') :
    wpAny (model prog w) A (execs (plBody w.params) (plEnv w L)) Q E s := by
  have ge : GEnv (plEnv w L) := ⟨by kernel_rfl, by kernel_rfl, by kernel_rfl⟩
  have ok := cok kinds t
  have p0 := pf.sub F.sub
  have hml := Nat.mod_lt t hn
  -- kind = kinds[turn % len(kinds)]
  refine' bl_assign (S := I (kindP kinds t : Int)) F rm (ev_item (k := ((t % kinds.length : Nat) : Int)) (by walk_at "ev") (EV.eqI (a := (t : Int).fmod ((toN kinds).length : Nat)) (by rw [toN_len, fmod_nat]) (ev_binr (by walk_at "ev") (ev_call1 rfl rfl (by walk_at "ev") (by walk_at "cw") (by walk_at "ev") (mono_Ls mono_I _) (call_lenlist (by rw [toN_len]; lia))) (mono_I _) (bin_mod (by rw [toN_len]; lia)))) mono_I (by lia) (kindP_get hn t) (by lia)) (mono_I _) (.inl (by kernel_rfl)) (by kernel_rfl) fun s₁ l₁ F₁ => ?_
  have p1 := pf.sub F₁.sub
  have hkl := kindP_lt hk t
  -- if turn >= len(kinds)
  refine bl_if (b := decide ((t : Int) ≥ ((toN kinds).length : Nat))) rm (evb_cmpr (Z1 := []) (Z2 := []) (by walk_at "ev") (ev_call1 rfl rfl (by walk_at "ev") (by walk_at "cw") (by walk_at "ev") (mono_Ls mono_I _) (call_lenlist (by rw [toN_len]; lia))) (mono_I _) (by kernel_rfl) cmp_ge) fun s₂ k₂ => ?_
  have F₂ := F₁.keep (ksub k₂)
  by_cases hc : kinds.length ≤ t
  · have e : decide ((t : Int) ≥ ((toN kinds).length : Nat)) = true := decide_eq_true (by rw [toN_len]; lia)
    rw [e]
    have hd1 : 1 ≤ (csP kinds t).getD (kindP kinds t) 0 := by
      have hl := ok.len
      rw [List.getD_eq_getElem?_getD, List.getElem?_eq_getElem (by lia)]
      exact ok.pos _ (List.getElem_mem _)
    have hd2 := getD_le ok (kindP kinds t)
    refine' bl_append (R := I) (a := (((csP kinds t).getD (kindP kinds t) 0 - 1 : Nat) : Int)) F₂ rm (by rfl) (by kernel_rfl) (by kernel_rfl) (by kernel_rfl) ?_ (by walk_at "ev") mono_I (by rw [toN_len]; show _ ≤ 16777216; lia) fun s₃ l₃ F₃ => bl_nil ?_
    · have p2 := pf.sub F₂.sub
      refine EV.eqI (a := (((List.replicate ((csP kinds t).getD (kindP kinds t) 0) 46).length : Nat) : Int) - 1) (by rw [List.length_replicate]; lia) ?_
      exact ev_binr (ev_call1 rfl rfl (by walk_at "ev") (by walk_at "cw") (ev_item (k := ((kindP kinds t : Nat) : Int)) (a := List.replicate ((csP kinds t).getD (kindP kinds t) 0) 46) (by walk_at "ev") (by walk_at "ev") mono_Tl (by lia) (rows_get ok hkl) (by lia)) (mono_Tl _) (call_lentl (by rw [List.length_replicate]; lia))) (by walk_at "ev") (mono_I _) bin_sub
    · refine pl_mail F₃ rm pf hn hn8 ht fun s₄ l₄ F₄ => q s₄ (l₁.trans ((klike k₂).trans (l₃.trans l₄))) ?_
      have e2 : toN (plP kinds (t + 1)) = toN (plP kinds t) ++ [(((csP kinds t).getD (kindP kinds t) 0 - 1 : Nat) : Int)] := by
        rw [plP, if_pos hc]; simp [toN]
      rw [e2]; exact F₄
  · have e : decide ((t : Int) ≥ ((toN kinds).length : Nat)) = false := decide_eq_false (by rw [toN_len]; lia)
    rw [e]
    refine bl_nil ?_
    refine pl_mail F₂ rm pf hn hn8 ht fun s₄ l₄ F₄ => q s₄ (l₁.trans ((klike k₂).trans l₄)) ?_
    have e2 : plP kinds (t + 1) = plP kinds t := by rw [plP, if_neg hc]
    rw [e2]; exact F₄
theorem plP_len (kinds : List Nat) : ∀ t, (plP kinds t).length ≤ t
  | 0 => by simp [plP]
  | t + 1 => by
    have := plP_len kinds t
    rw [plP]
    split
    · rw [List.length_append]; simp; lia
    · lia
theorem pc_places {h : Heap} (pf : PF (K1 w.params) h) (hn : 1 ≤ kinds.length) (hn8 : kinds.length ≤ 8) (hk : ∀ k ∈ kinds, k < 4) : PC prog w 7 h 156 [Ls I (toN kinds)] (Ls I (toN (placesP kinds))) := by
  intro A s Z vs R rm k zl x q
  obtain ⟨v1, rfl, h1⟩ := args1 x
  have pf' := pf.sub k
  obtain ⟨fa, hbd⟩ := fnAt_of pf'.X pf'.nl (fnB_pl _)
  refine enter_fn (n := 6) (Z := Z) (Xc := []) (μ := []) (ρ := [(Str.ofString "kinds", Ls I (toN kinds))]) (binds := [(Str.ofString "kinds", v1)]) rm fa hbd (by kernel_rfl) (by kernel_rfl) ?_ (by simp) (fun _ _ h => nomatch h) zl (by kernel_rfl) (by kernel_rfl) (by kernel_rfl) (by simp)
    (.cons h1 (mono_Ls mono_I _) .nil) (by simp) (by simp) fun L s₁ E' hL rm' l₁ F sub => ?_
  · intro L x hx
    simp only [List.mem_cons, List.not_mem_nil, or_false] at hx
    subst hx
    exact .inl (by kernel_rfl)
  have ge : GEnv (plEnv w L) := ⟨by kernel_rfl, by kernel_rfl, by kernel_rfl⟩
  have p1 := pf'.sub sub
  have pH : PF (KW w) (hid [] s.heap) := pf'.sub fun b o e => hid_get e (by simp)
  -- ends, rows
  refine' bl_assign (S := Ls Tl ends3) F rm' (ev_list3 F.live (by kernel_rfl) (ev_tl rfl) (ev_tl rfl) (ev_tl rfl) mono_Tl) (mono_Ls mono_Tl _) (.inl (by kernel_rfl)) (by kernel_rfl) fun s₂ l₂ F₂ => ?_
  refine' bl_assign (S := Ls Tl [[46], [46], [46], [46]]) F₂ rm' (ev_list4 F₂.live (by kernel_rfl) (ev_tl rfl) (ev_tl rfl) (ev_tl rfl) (ev_tl rfl) mono_Tl) (mono_Ls mono_Tl _) (.inl (by kernel_rfl)) (by kernel_rfl) fun s₃ l₃ F₃ => ?_
  -- places = []
  refine' bl_own (R := I) (xs := []) F₃ rm' (fun Z' zl' => ev_list0 zl' mono_I) mono_I (fun a h h' v _ y => y) (.inl (by kernel_rfl)) (by kernel_rfl) fun r s₄ hr l₄ F₄ => ?_
  have hlen : ((2 : Int) * ((toN kinds).length : Nat)).toNat = 2 * kinds.length := by rw [toN_len]; lia
  have F₄' := F₄.sel (ρ' := plρ kinds r 0) (by walk_at "sel")
  have pF := pH.sub F₄.sub
  refine bl_for (R := I) (xs := rgList 0 1 (2 * kinds.length)) (S := Rg 0 1 (2 * kinds.length)) (μ := fun i => [(r, OL I (toN (plP kinds i)))]) (ρ := fun i => plρ kinds r i) (ρt := fun i a => (Str.ofString "turn", I a) :: plρ kinds r i)
    F₄' rm' ?_ itr_range mono_I (fun _ => rfl) (fun _ => rfl) (fun i a u I' P H' s' E' ha hR kH F' => tgt_name F' (mono_I _) hR (.inl (by kernel_rfl)) fun s'' l'' F'' => ⟨l'', F''⟩) (fun i a I' P H' s' E' ha kH l' F' => ?_) fun s₅ l₅ F₅ => ?_
  · refine EV.to (S := Rg 0 1 ((2 : Int) * ((toN kinds).length : Nat)).toNat) ?_ (by rw [hlen])
    have hl : ((toN kinds).length : Int) ≤ 8 := by rw [toN_len]; lia
    exact ev_callz1 rfl rfl (by walk_at "ev") (by walk_at "cw") F₄'.live (ev_binr (by walk_at "ev") (ev_call1 rfl rfl (by walk_at "ev") (by walk_at "cw") (by walk_at "ev") (mono_Ls mono_I _) (call_lenlist (by rw [toN_len]; lia))) (mono_I _) (bin_mul (mul_ok (by lia)))) (mono_I _) (call_range1 (by lia) (by lia))
  · obtain ⟨hi, rfl⟩ : i < 2 * kinds.length ∧ a = (i : Int) := by
      have h1 := ha
      unfold rgList at h1
      rw [List.getElem?_map] at h1
      by_cases hi : i < 2 * kinds.length
      · rw [List.getElem?_range hi] at h1
        cases h1
        exact ⟨hi, by show (0 : Int) + (i : Int) * 1 = i; lia⟩
      · rw [List.getElem?_eq_none (by simpa using hi)] at h1; cases h1
    have F'' := F'.perm (List.Perm.swap _ _ _)
    exact pl_turn (μ := [(I', P)]) F'' rm' (pH.sub kH) hn hn8 hk (by lia) (by have := plP_len kinds i; lia) fun s'' l'' G => ⟨.inl rfl, l'', G.perm (List.Perm.swap _ _ _)⟩
  have hll : (rgList 0 1 (2 * kinds.length)).length = 2 * kinds.length := by simp [rgList]
  rw [hll] at F₅
  -- return places
  have G := F₅.give (y := Str.ofString "places") mono_I (by walk_at "lk") hr F₃.xz
  refine bl_return (S := Ls I (toN (placesP kinds))) rm' (Z := L :: (cellAddrs L (fdOf (K1 w.params) 156).scope ++ Z)) (ev_var G.loc (by walk_at "lk") (fun _ h => h) (by decide +kernel)) fun v s' k' hv => q v s' ?_ ?_
  · have ll : Like s s' := ((l₁.trans l₂).trans (l₃.trans l₄)).trans (l₅.trans (klike k'))
    obtain ⟨h2, tk2, e2⟩ := ll
    subst e2
    refine ⟨h2, tk2, rfl, fun b o e => ?_⟩
    exact ksub k' _ _ (G.sub b o (hid_get e (by simp)))
  · exact mono_Ls mono_I _ _ _ _ (hid_less fun a m => by simp [m]) hv
end
end
end
section
set_option Elab.async false
set_option maxRecDepth 100000
set_option linter.unusedVariables false
/-! ## Gessel and Reutenauer, plain -/
theorem nodup_le : ∀ {n : Nat} {l : List Nat}, l.Nodup → (∀ x ∈ l, x < n) → l.length ≤ n
  | 0, [], _, _ => Nat.le_refl _
  | 0, a :: l, _, h => absurd (h a (.head _)) (Nat.not_lt_zero _)
  | n + 1, l, nd, h => by
    by_cases hm : n ∈ l
    · have := nodup_le (n := n) (nd.erase n) fun x m => by
        have h1 := (nd.mem_erase_iff).mp m
        have h2 := h x h1.2
        have h3 := h1.1
        lia
      rw [List.length_erase_of_mem hm] at this
      lia
    · have := nodup_le (n := n) nd fun x m => by
        have h2 := h x m
        have h3 : x ≠ n := fun e => hm (e ▸ m)
        lia
      lia
noncomputable def itN (f : Nat → Nat) : Nat → Nat → Nat
  | 0, x => x
  | k + 1, x => f (itN f k x)
theorem itN_in (f : Nat → Nat) : ∀ k x, itN f (k + 1) x = itN f k (f x)
  | 0, x => rfl
  | k + 1, x => by rw [itN, itN_in f k x]; rfl
theorem itN_add (f : Nat → Nat) : ∀ a b x, itN f (a + b) x = itN f a (itN f b x)
  | 0, b, x => by rw [Nat.zero_add]; rfl
  | a + 1, b, x => by rw [show a + 1 + b = a + b + 1 by lia, itN, itN_add f a b x]; rfl
structure GRok (n : Nat) (w P : List Nat) : Prop where
  wl : w.length = n
  pl : P.length = n
  lt : ∀ i, i < n → P.getD i 0 < n
  mono : ∀ i j, i < n → j < n → (w.getD i 0 < w.getD j 0 ∨ (w.getD i 0 = w.getD j 0 ∧ i < j)) → P.getD i 0 < P.getD j 0
  d16 : ∀ i, w.getD i 0 < 16
noncomputable def pG (P : List Nat) (q : Nat) : Nat := P.getD q 0
noncomputable def sG (P : List Nat) (q : Nat) : Nat := P.idxOf q
noncomputable def nG (w P : List Nat) : Nat → Nat → Nat
  | 0, _ => 0
  | m + 1, q => w.getD (sG P q) 0 * 16 ^ m + nG w P m (sG P q)
noncomputable def dG (w P : List Nat) : Nat → Nat → List Nat
  | 0, _ => []
  | m + 1, q => w.getD (sG P q) 0 :: dG w P m (sG P q)
section
variable {n : Nat} {w P : List Nat} (G : GRok n w P)
include G
theorem GRok.inj {i j : Nat} (hi : i < n) (hj : j < n) (e : pG P i = pG P j) : i = j := by
  unfold pG at e
  rcases Nat.lt_trichotomy (w.getD i 0) (w.getD j 0) with h | h | h
  · have := G.mono i j hi hj (.inl h); lia
  · rcases Nat.lt_trichotomy i j with k | k | k
    · have := G.mono i j hi hj (.inr ⟨h, k⟩); lia
    · exact k
    · have := G.mono j i hj hi (.inr ⟨h.symm, k⟩); lia
  · have := G.mono j i hj hi (.inl h); lia
theorem GRok.getP {i : Nat} (hi : i < n) : P[i]? = some (pG P i) := by
  have h := G.pl
  unfold pG
  rw [List.getD_eq_getElem?_getD, List.getElem?_eq_getElem (by lia)]; rfl
theorem GRok.nd : P.Nodup := by
  have h := G.pl
  refine List.pairwise_iff_getElem.mpr fun i j hi hj hij e => ?_
  have h1 := G.getP (i := i) (by lia)
  have h2 := G.getP (i := j) (by lia)
  rw [List.getElem?_eq_getElem hi] at h1
  rw [List.getElem?_eq_getElem hj] at h2
  have := G.inj (i := i) (j := j) (by lia) (by lia) (by rw [← Option.some.inj h1, ← Option.some.inj h2, e])
  lia
theorem GRok.memlt {q : Nat} (m : q ∈ P) : q < n := by
  have h := G.pl
  obtain ⟨i, hi, rfl⟩ := List.mem_iff_getElem.mp m
  have h1 := G.getP (i := i) (by lia)
  rw [List.getElem?_eq_getElem hi] at h1
  rw [Option.some.inj h1]
  exact G.lt i (by lia)
theorem GRok.mem {q : Nat} (h : q < n) : q ∈ P := Decidable.byContradiction fun hm => by
  have := nodup_le (n := n) (l := q :: P) (List.nodup_cons.mpr ⟨hm, G.nd⟩) fun x m => by
    rcases List.mem_cons.mp m with rfl | m
    · exact h
    · exact G.memlt m
  have := G.pl
  simp at *
  lia
theorem GRok.slt {q : Nat} (h : q < n) : sG P q < n := by
  have := List.idxOf_lt_length_of_mem (G.mem h)
  rw [G.pl] at this
  exact this
theorem GRok.plt {q : Nat} (h : q < n) : pG P q < n := G.lt q h
theorem GRok.ps {q : Nat} (h : q < n) : pG P (sG P q) = q := by
  have hl : sG P q < P.length := by rw [G.pl]; exact G.slt h
  have h1 := G.getP (G.slt h)
  rw [List.getElem?_eq_getElem hl] at h1
  have h2 := List.getElem_idxOf (xs := P) (x := q) hl
  rw [← Option.some.inj h1]
  exact h2
theorem GRok.sp {q : Nat} (h : q < n) : sG P (pG P q) = q := G.inj (G.slt (G.plt h)) h (G.ps (G.plt h))
theorem GRok.order {q q' : Nat} (h : q < q') (h' : q' < n) : w.getD (sG P q) 0 < w.getD (sG P q') 0 ∨ (w.getD (sG P q) 0 = w.getD (sG P q') 0 ∧ sG P q < sG P q') := by
  have hq : q < n := by lia
  have a := G.slt hq
  have b := G.slt h'
  have c := G.ps hq
  have d := G.ps h'
  unfold pG at c d
  rcases Nat.lt_trichotomy (w.getD (sG P q) 0) (w.getD (sG P q') 0) with k | k | k
  · exact .inl k
  · rcases Nat.lt_trichotomy (sG P q) (sG P q') with t | t | t
    · exact .inr ⟨k, t⟩
    · rw [t] at c; lia
    · have := G.mono _ _ b a (.inr ⟨k.symm, t⟩); lia
  · have := G.mono _ _ b a (.inl k); lia
theorem GRok.sit {q : Nat} (h : q < n) : ∀ k, itN (sG P) k q < n
  | 0 => h
  | k + 1 => G.slt (GRok.sit h k)
theorem GRok.pit {q : Nat} (h : q < n) : ∀ k, itN (pG P) k q < n
  | 0 => h
  | k + 1 => G.plt (GRok.pit h k)
theorem GRok.sp_it {q : Nat} (h : q < n) : ∀ k, itN (sG P) k (itN (pG P) k q) = q
  | 0 => rfl
  | k + 1 => by rw [itN_in, itN, G.sp (G.pit h k)]; exact GRok.sp_it h k
theorem GRok.n_lt : ∀ m q, nG w P m q < 16 ^ m
  | 0, q => by simp [nG]
  | m + 1, q => by
    have h1 := GRok.n_lt m (sG P q)
    have h2 := G.d16 (sG P q)
    rw [nG, Nat.pow_succ]
    have h3 : w.getD (sG P q) 0 * 16 ^ m ≤ 15 * 16 ^ m := Nat.mul_le_mul_right _ (by lia)
    lia
theorem GRok.n_mono : ∀ (m q q' : Nat), q < q' → q' < n → nG w P m q ≤ nG w P m q'
  | 0, q, q', _, _ => Nat.le_refl _
  | m + 1, q, q', h, h' => by
    rw [nG, nG]
    rcases G.order h h' with k | ⟨k, k'⟩
    · have h1 := G.n_lt m (sG P q)
      have h3 : (w.getD (sG P q) 0 + 1) * 16 ^ m ≤ w.getD (sG P q') 0 * 16 ^ m := Nat.mul_le_mul_right _ (by lia)
      rw [Nat.add_mul] at h3
      lia
    · have := GRok.n_mono m (sG P q) (sG P q') k' (G.slt h')
      rw [k]; lia
omit G in
theorem n_add : ∀ a b q, nG w P (a + b) q = nG w P a q * 16 ^ b + nG w P b (itN (sG P) a q)
  | 0, b, q => by rw [Nat.zero_add, nG, Nat.zero_mul, Nat.zero_add]; rfl
  | a + 1, b, q => by
    rw [show a + 1 + b = a + b + 1 by lia, nG, nG, n_add a b, itN_in, Nat.pow_add, Nat.add_mul, Nat.mul_assoc, Nat.add_assoc]
omit G in
theorem n_period {m q : Nat} (h : itN (sG P) m q = q) : ∀ j, nG w P (m * j) q * (16 ^ m - 1) = nG w P m q * (16 ^ (m * j) - 1)
  | 0 => by simp [nG]
  | j + 1 => by
    have ih := n_period h j
    rw [show m * (j + 1) = m + m * j by rw [Nat.mul_add]; lia, n_add, h, Nat.pow_add]
    have hB : 1 ≤ 16 ^ m := Nat.pow_pos (by decide)
    have hC : 1 ≤ 16 ^ (m * j) := Nat.pow_pos (by decide)
    generalize 16 ^ m = B at *
    generalize 16 ^ (m * j) = C at *
    generalize nG w P m q = x at *
    generalize nG w P (m * j) q = y at *
    obtain ⟨b, rfl⟩ : ∃ b, B = b + 1 := ⟨B - 1, by lia⟩
    obtain ⟨c, rfl⟩ : ∃ c, C = c + 1 := ⟨C - 1, by lia⟩
    simp only [Nat.add_sub_cancel] at ih ⊢
    have e : (b + 1) * (c + 1) - 1 = b * c + b + c := by rw [Nat.add_mul, Nat.mul_add, Nat.one_mul, Nat.mul_one]; lia
    rw [e, Nat.add_mul, ih]
    simp only [Nat.mul_add, Nat.add_mul, Nat.mul_assoc, Nat.mul_comm c b, Nat.mul_one]
theorem GRok.cross {q q' m m' : Nat} (hq : q < q') (hq' : q' < n) (h1 : 1 ≤ m) (h2 : 1 ≤ m') (e : itN (sG P) m q = q) (e' : itN (sG P) m' q' = q') : nG w P m q * (16 ^ m' - 1) ≤ nG w P m' q' * (16 ^ m - 1) := by
  have a := n_period (w := w) e m'
  have b := n_period (w := w) e' m
  rw [Nat.mul_comm m' m] at b
  have c := G.n_mono (m * m') q q' hq hq'
  have hE : 0 < 16 ^ (m * m') - 1 := by
    have : 1 ≤ m * m' := Nat.mul_le_mul h1 h2
    have : 16 ^ 1 ≤ 16 ^ (m * m') := Nat.pow_le_pow_right (by decide) this
    lia
  refine Nat.le_of_mul_le_mul_right ?_ hE
  generalize 16 ^ (m * m') - 1 = E at *
  generalize 16 ^ m' - 1 = U at *
  generalize 16 ^ m - 1 = V at *
  generalize nG w P (m * m') q = x at *
  generalize nG w P (m * m') q' = y at *
  generalize nG w P m q = s at *
  generalize nG w P m' q' = t at *
  have l : s * U * E = x * (U * V) := by rw [Nat.mul_right_comm, ← a, Nat.mul_assoc, Nat.mul_comm V U]
  have r : t * V * E = y * (U * V) := by rw [Nat.mul_right_comm, ← b, Nat.mul_assoc]
  rw [l, r]
  exact Nat.mul_le_mul_right _ c
theorem GRok.stay : ∀ (M q q' : Nat), q < q' → q' < n → nG w P M q = nG w P M q' → ∀ k, k ≤ M → itN (sG P) k q < itN (sG P) k q'
  | M, q, q', h, h', e, 0, _ => h
  | M + 1, q, q', h, h', e, k + 1, hk => by
    rw [nG, nG] at e
    have h1 := G.n_lt M (sG P q)
    have h2 := G.n_lt M (sG P q')
    rcases G.order h h' with a | ⟨a, b⟩
    · have h3 : (w.getD (sG P q) 0 + 1) * 16 ^ M ≤ w.getD (sG P q') 0 * 16 ^ M := Nat.mul_le_mul_right _ (by lia)
      rw [Nat.add_mul] at h3
      lia
    · rw [a] at e
      rw [itN_in, itN_in]
      exact GRok.stay M _ _ b (G.slt h') (by lia) k (by lia)
theorem GRok.stay_all {m q q' : Nat} (hm : 1 ≤ m) (h : q < q') (h' : q' < n) (e : itN (sG P) m q = q) (e' : itN (sG P) m q' = q') (en : nG w P m q = nG w P m q') (k : Nat) : itN (sG P) k q < itN (sG P) k q' := by
  refine G.stay (m * k) q q' h h' ?_ k (Nat.le_mul_of_pos_left _ (by lia))
  have a := n_period (w := w) e k
  have b := n_period (w := w) e' k
  rw [en, ← b] at a
  have : 16 ^ 1 ≤ 16 ^ m := Nat.pow_le_pow_right (by decide) hm
  exact Nat.eq_of_mul_eq_mul_right (by lia) a
/-- no two turnings of a ring are alike -/
theorem GRok.differ {m q j : Nat} (hm : 1 ≤ m) (hq : q < n) (e : itN (sG P) m q = q) (hne : itN (sG P) j q ≠ q) : nG w P m (itN (sG P) j q) ≠ nG w P m q := fun en => by
  have hq' := G.sit hq j
  have e' : itN (sG P) m (itN (sG P) j q) = itN (sG P) j q := by rw [← itN_add, Nat.add_comm, itN_add, e]
  rcases Nat.lt_or_gt_of_ne hne with h | h
  · have key := G.stay_all hm h hq e' e en
    have down : ∀ t, itN (sG P) (j * t) q + t ≤ q := fun t => by
      induction t with
      | zero => exact Nat.le_refl _
      | succ t ih =>
        have := key (j * t)
        rw [← itN_add] at this
        rw [Nat.mul_add, Nat.mul_one]
        lia
    have := down (q + 1)
    lia
  · have key := G.stay_all hm h hq' e e' en.symm
    have up : ∀ t, t ≤ itN (sG P) (j * t) q := fun t => by
      induction t with
      | zero => exact Nat.zero_le _
      | succ t ih =>
        have := key (j * t)
        rw [← itN_add] at this
        rw [Nat.mul_add, Nat.mul_one]
        lia
    have h1 := up n
    have h2 := G.sit hq (j * n)
    lia
end
end
section
set_option Elab.async false
set_option maxRecDepth 100000
set_option linter.unusedVariables false
/-! ## rings -/
noncomputable def wayP (P : List Nat) (x : Nat) : Nat → List Nat
  | 0 => [x]
  | i + 1 => if pG P ((wayP P x i).getLastD 0) = x then wayP P x i else wayP P x i ++ [pG P ((wayP P x i).getLastD 0)]
noncomputable def orbG (P : List Nat) (x m : Nat) : List Nat := (List.range m).map fun k => itN (pG P) k x
theorem orb_len (P : List Nat) (x m : Nat) : (orbG P x m).length = m := by simp [orbG]
theorem orb_succ (P : List Nat) (x m : Nat) : orbG P x (m + 1) = orbG P x m ++ [itN (pG P) m x] := by simp [orbG, List.range_succ]
theorem orb_get {P : List Nat} {x m i : Nat} (h : i < m) : (orbG P x m)[i]? = some (itN (pG P) i x) := by
  unfold orbG
  rw [List.getElem?_map, List.getElem?_range h]; rfl
theorem wayP_orb (P : List Nat) (x : Nat) : ∀ i, ∃ m, 1 ≤ m ∧ m ≤ i + 1 ∧ wayP P x i = orbG P x m ∧ (∀ k, 0 < k → k < m → itN (pG P) k x ≠ x) ∧ (itN (pG P) m x = x ∨ m = i + 1)
  | 0 => ⟨1, Nat.le_refl _, Nat.le_refl _, rfl, fun k a b => by lia, .inr rfl⟩
  | i + 1 => by
    obtain ⟨m, h1, h2, h3, h4, h5⟩ := wayP_orb P x i
    obtain ⟨m, rfl⟩ : ∃ m', m = m' + 1 := ⟨m - 1, by lia⟩
    have hl : pG P ((wayP P x i).getLastD 0) = itN (pG P) (m + 1) x := by
      rw [h3, orb_succ]; simp [itN]
    unfold wayP
    rw [hl]
    by_cases e : itN (pG P) (m + 1) x = x
    · rw [if_pos e]; exact ⟨m + 1, h1, by lia, h3, h4, .inl e⟩
    · rw [if_neg e]
      refine ⟨m + 2, by lia, by lia, by rw [h3, ← orb_succ], fun k a b => ?_, .inr ?_⟩
      · rcases Nat.lt_or_ge k (m + 1) with q | q
        · exact h4 k a q
        · rw [show k = m + 1 by lia]; exact e
      · rcases h5 with q | q
        · exact absurd q e
        · lia
/-- a ring: from x back to x, first after m -/
structure RingG (n : Nat) (P : List Nat) (x m : Nat) : Prop where
  xn : x < n
  m1 : 1 ≤ m
  mn : m ≤ n
  back : itN (pG P) m x = x
  first : ∀ k, 0 < k → k < m → itN (pG P) k x ≠ x
section
variable {n : Nat} {w P : List Nat} (G : GRok n w P)
include G
theorem GRok.pinj {x a b : Nat} (hx : x < n) (h : a < b) (e : itN (pG P) a x = itN (pG P) b x) : itN (pG P) (b - a) x = x := by
  have h1 := G.sp_it (G.pit hx (b - a)) a
  rw [← itN_add, show a + (b - a) = b by lia, ← e, G.sp_it hx] at h1
  exact h1.symm
theorem GRok.orb_nodup {x m : Nat} (hx : x < n) (h : ∀ k, 0 < k → k < m → itN (pG P) k x ≠ x) : (orbG P x m).Nodup := by
  refine List.pairwise_iff_getElem.mpr fun i j hi hj hij e => ?_
  rw [orb_len] at hi hj
  have h1 := orb_get (P := P) (x := x) hi
  have h2 := orb_get (P := P) (x := x) hj
  rw [List.getElem?_eq_getElem (by rw [orb_len]; exact hi)] at h1
  rw [List.getElem?_eq_getElem (by rw [orb_len]; exact hj)] at h2
  rw [Option.some.inj h1, Option.some.inj h2] at e
  exact h (j - i) (by lia) (by lia) (G.pinj hx hij e)
theorem GRok.way {x : Nat} (hx : x < n) : ∃ m, wayP P x n = orbG P x m ∧ RingG n P x m := by
  obtain ⟨m, h1, h2, h3, h4, h5⟩ := wayP_orb P x n
  have nd := G.orb_nodup hx h4
  have hl := nodup_le nd fun y hy => by
    obtain ⟨k, _, rfl⟩ := List.mem_map.mp hy
    exact G.pit hx k
  rw [orb_len] at hl
  exact ⟨m, h3, hx, h1, hl, h5.resolve_right (by lia), h4⟩
end
section
variable {n : Nat} {w P : List Nat} {x m : Nat} (G : GRok n w P) (r : RingG n P x m)
include G r
theorem RingG.pback (i : Nat) : itN (pG P) m (itN (pG P) i x) = itN (pG P) i x := by rw [← itN_add, Nat.add_comm, itN_add, r.back]
theorem RingG.sback (i : Nat) : itN (sG P) m (itN (pG P) i x) = itN (pG P) i x := by
  have h := G.sp_it (G.pit r.xn i) m
  rw [r.pback G i] at h
  exact h
theorem RingG.lt (i : Nat) : itN (pG P) i x < n := G.pit r.xn i
theorem RingG.nd : (orbG P x m).Nodup := G.orb_nodup r.xn r.first
theorem RingG.differ {i j : Nat} (h : i < j) (hj : j < m) : nG w P m (itN (pG P) i x) ≠ nG w P m (itN (pG P) j x) := by
  have e : itN (sG P) (j - i) (itN (pG P) j x) = itN (pG P) i x := by
    have := G.sp_it (r.lt G i) (j - i)
    rw [← itN_add, show j - i + i = j by lia] at this
    exact this
  have := G.differ (m := m) (q := itN (pG P) j x) (j := j - i) r.m1 (r.lt G j) (r.sback G j) (by
    rw [e]
    intro q
    exact r.first (j - i) (by lia) (by lia) (G.pinj r.xn h q))
  rw [e] at this
  exact this
end
/-! ## letters -/
noncomputable def numF (l : List Nat) : Nat := l.foldl (fun k d => 16 * k + d) 0
theorem numF_snoc (l : List Nat) (d : Nat) : numF (l ++ [d]) = 16 * numF l + d := by simp [numF, List.foldl_append]
theorem foldl_num : ∀ (l : List Nat) (k : Nat), l.foldl (fun k d => 16 * k + d) k = k * 16 ^ l.length + numF l
  | [], k => by simp [numF]
  | a :: l, k => by
    have e : numF (a :: l) = (16 * 0 + a) * 16 ^ l.length + numF l := by
      show List.foldl _ 0 (a :: l) = _
      rw [List.foldl_cons, foldl_num l]
    rw [e, List.foldl_cons, foldl_num l, List.length_cons, Nat.pow_succ, Nat.add_mul, Nat.add_mul, Nat.mul_comm 16 k, Nat.mul_assoc, Nat.mul_comm 16, Nat.mul_zero, Nat.zero_mul]
    lia
theorem numF_cons (a : Nat) (l : List Nat) : numF (a :: l) = a * 16 ^ l.length + numF l := by
  unfold numF
  rw [List.foldl_cons, foldl_num]
  simp [numF]
theorem dG_len (w P : List Nat) : ∀ m q, (dG w P m q).length = m
  | 0, q => rfl
  | m + 1, q => by rw [dG, List.length_cons, dG_len w P m]
theorem dG_num (w P : List Nat) : ∀ m q, numF (dG w P m q) = nG w P m q
  | 0, q => rfl
  | m + 1, q => by rw [dG, numF_cons, dG_len, dG_num w P m, nG]
theorem dG_snoc (w P : List Nat) : ∀ m q, dG w P (m + 1) q = dG w P m q ++ [w.getD (itN (sG P) (m + 1) q) 0]
  | 0, q => rfl
  | m + 1, q => by
    rw [dG, dG_snoc w P m]
    show _ :: (_ ++ _) = _
    rw [dG, itN_in (sG P) (m + 1) q]
    rfl
theorem dG_lt {n : Nat} {w P : List Nat} (G : GRok n w P) : ∀ m q, ∀ d ∈ dG w P m q, d < 16
  | 0, q, d, h => nomatch h
  | m + 1, q, d, h => by
    rw [dG] at h
    rcases List.mem_cons.mp h with rfl | h
    · exact G.d16 _
    · exact dG_lt G m _ d h
noncomputable def rotN (m k : Nat) : Nat := k / 16 + k % 16 * 16 ^ (m - 1)
theorem rot_n {n : Nat} {w P : List Nat} {m q : Nat} (G : GRok n w P) (hm : 1 ≤ m) (hq : q < n) (e : itN (sG P) m q = q) : rotN m (nG w P m q) = nG w P m (pG P q) := by
  obtain ⟨m, rfl⟩ : ∃ m', m = m' + 1 := ⟨m - 1, by lia⟩
  unfold rotN
  have hd := G.d16 q
  rw [← dG_num, dG_snoc, numF_snoc, e, nG, G.sp hq, ← dG_num, show m + 1 - 1 = m by lia]
  generalize w.getD q 0 = d at *
  rw [show (16 * numF (dG w P m q) + d) / 16 = numF (dG w P m q) by lia, show (16 * numF (dG w P m q) + d) % 16 = d by lia]
  lia
/-- the letters of a ring, the last one first -/
theorem figs_rev {n : Nat} {w P : List Nat} {x : Nat} (G : GRok n w P) (hx : x < n) : ∀ m, (orbG P x m).reverse.map (fun q => w.getD q 0) = dG w P m (itN (pG P) m x)
  | 0 => rfl
  | m + 1 => by
    rw [orb_succ, List.reverse_append, List.map_append, figs_rev G hx m, dG, itN, G.sp (G.pit hx m)]
    rfl
theorem ring_figs {n : Nat} {w P : List Nat} {x m : Nat} (G : GRok n w P) (r : RingG n P x m) : (orbG P x m).reverse.map (fun q => w.getD q 0) = dG w P m x := by
  rw [figs_rev G r.xn m, r.back]
end
section
set_option Elab.async false
set_option maxRecDepth 100000
set_option linter.unusedVariables false
/-! ## all rings -/
noncomputable def ringT (w P : List Nat) (x : Nat) : List (Nat × Nat × Nat) := (wayP P x w.length).map fun q => (q, nG w P (wayP P x w.length).length q, 16 ^ (wayP P x w.length).length - 1)
noncomputable def turnsP (w P : List Nat) : Nat → List (Nat × Nat × Nat)
  | 0 => []
  | i + 1 => if ((turnsP w P i).map (·.1)).any (· == i) = true then turnsP w P i else turnsP w P i ++ ringT w P i
structure TInv (n : Nat) (w P : List Nat) (i : Nat) (T : List (Nat × Nat × Nat)) : Prop where
  nd : (T.map (·.1)).Nodup
  lt : ∀ t ∈ T, t.1 < n
  ring : ∀ t ∈ T, ∃ m, 1 ≤ m ∧ m ≤ n ∧ itN (sG P) m t.1 = t.1 ∧ t.2.1 = nG w P m t.1 ∧ t.2.2 = 16 ^ m - 1
  cov : ∀ k, k < i → k ∈ T.map (·.1)
  closed : ∀ q ∈ T.map (·.1), sG P q ∈ T.map (·.1)
theorem TInv.sit {n : Nat} {w P : List Nat} {i : Nat} {T : List (Nat × Nat × Nat)} (h : TInv n w P i T) {q : Nat} (hq : q ∈ T.map (·.1)) : ∀ k, itN (sG P) k q ∈ T.map (·.1)
  | 0 => hq
  | k + 1 => h.closed _ (TInv.sit h hq k)
theorem ringT_fst (w P : List Nat) (x : Nat) : (ringT w P x).map (·.1) = wayP P x w.length := by
  unfold ringT
  rw [List.map_map]
  exact List.map_id _
theorem tinv_step {n : Nat} {w P : List Nat} {i : Nat} {T : List (Nat × Nat × Nat)} (G : GRok n w P) (hi : i < n) (h : TInv n w P i T) (hn : i ∉ T.map (·.1)) : TInv n w P (i + 1) (T ++ ringT w P i) := by
  obtain ⟨m, hw, r⟩ := G.way hi
  have hf : (ringT w P i).map (·.1) = orbG P i m := by rw [ringT_fst, G.wl, hw]
  have memO : ∀ q, q ∈ orbG P i m → ∃ k, k < m ∧ q = itN (pG P) k i := fun q hq => by
    obtain ⟨k, hk, rfl⟩ := List.mem_map.mp hq
    exact ⟨k, List.mem_range.mp hk, rfl⟩
  have Omem : ∀ k, k < m → itN (pG P) k i ∈ orbG P i m := fun k hk => List.mem_map.mpr ⟨k, List.mem_range.mpr hk, rfl⟩
  refine ⟨?_, fun t ht => ?_, fun t ht => ?_, fun k hk => ?_, fun q hq => ?_⟩
  · rw [List.map_append, hf, List.nodup_append]
    refine ⟨h.nd, r.nd G, fun a ha b hb e => ?_⟩
    subst e
    obtain ⟨k, hk, rfl⟩ := memO a hb
    have := h.sit ha k
    rw [G.sp_it hi] at this
    exact hn this
  · rcases List.mem_append.mp ht with m' | m'
    · exact h.lt t m'
    · have : t.1 ∈ orbG P i m := hf ▸ List.mem_map_of_mem m'
      obtain ⟨k, _, e⟩ := memO _ this
      rw [e]; exact r.lt G k
  · rcases List.mem_append.mp ht with m' | m'
    · exact h.ring t m'
    · have h1 : t.1 ∈ orbG P i m := hf ▸ List.mem_map_of_mem m'
      obtain ⟨k, _, e⟩ := memO _ h1
      unfold ringT at m'
      rw [G.wl, hw, orb_len] at m'
      obtain ⟨q, _, rfl⟩ := List.mem_map.mp m'
      exact ⟨m, r.m1, r.mn, by dsimp only at e ⊢; rw [e]; exact r.sback G k, rfl, rfl⟩
  · rw [List.map_append, List.mem_append, hf]
    rcases Nat.lt_or_ge k i with q | q
    · exact .inl (h.cov k q)
    · have : k = i := by lia
      subst this
      exact .inr (Omem 0 (by have := r.m1; lia))
  · rw [List.map_append, List.mem_append, hf] at hq ⊢
    rcases hq with q' | q'
    · exact .inl (h.closed q q')
    · refine .inr ?_
      obtain ⟨k, hk, rfl⟩ := memO q q'
      cases k with
      | zero =>
        obtain ⟨m', rfl⟩ : ∃ m', m = m' + 1 := ⟨m - 1, by have := r.m1; lia⟩
        have e : sG P i = itN (pG P) m' i := by
          have := r.back
          rw [itN] at this
          have h2 := G.sp (G.pit hi m')
          rw [this] at h2
          exact h2
        show sG P i ∈ _
        rw [e]
        exact Omem m' (by lia)
      | succ k =>
        rw [itN, G.sp (G.pit hi k)]
        exact Omem k (by lia)
theorem turns_inv {n : Nat} {w P : List Nat} (G : GRok n w P) : ∀ i, i ≤ n → TInv n w P i (turnsP w P i)
  | 0, _ => ⟨List.nodup_nil, fun t h => (nomatch h), fun t h => (nomatch h), fun k h => absurd h (Nat.not_lt_zero _), fun q h => (nomatch h)⟩
  | i + 1, hi => by
    have ih := turns_inv G i (by lia)
    unfold turnsP
    by_cases hb : ((turnsP w P i).map (·.1)).any (· == i) = true
    · rw [if_pos hb]
      refine ⟨ih.nd, ih.lt, ih.ring, fun k hk => ?_, ih.closed⟩
      rcases Nat.lt_or_ge k i with q | q
      · exact ih.cov k q
      · obtain ⟨y, hy, e⟩ := List.any_eq_true.mp hb
        have : y = k := by have := beq_iff_eq.mp e; lia
        exact this ▸ hy
    · rw [if_neg hb]
      exact tinv_step G (by lia) ih fun hm => hb (List.any_eq_true.mpr ⟨i, hm, by simp⟩)
/-- in order -/
theorem turns_sorted {n : Nat} {w P : List Nat} (G : GRok n w P) {T : List (Nat × Nat × Nat)} (p : T.Perm (turnsP w P n)) (o : T.Pairwise fun a b => a.1 < b.1) : T.map (·.1) = List.range n := by
  have h := turns_inv G n (Nat.le_refl _)
  have pm : (T.map (·.1)).Perm (List.range n) := (p.map _).trans ((List.perm_ext_iff_of_nodup h.nd List.nodup_range).mpr fun a => ⟨fun m => by
    obtain ⟨t, ht, rfl⟩ := List.mem_map.mp m
    exact List.mem_range.mpr (h.lt t ht), fun m => h.cov a (List.mem_range.mp m)⟩)
  refine List.Perm.eq_of_pairwise (le := (· ≤ ·)) (fun a b _ _ h1 h2 => Nat.le_antisymm h1 h2) ?_ ?_ pm
  · rw [List.pairwise_map]; exact o.imp fun h => Nat.le_of_lt h
  · exact List.pairwise_lt_range.imp fun h => Nat.le_of_lt h
theorem turns_cross {n : Nat} {w P : List Nat} (G : GRok n w P) {T : List (Nat × Nat × Nat)} (p : T.Perm (turnsP w P n)) {a b : Nat × Nat × Nat} (ha : a ∈ T) (hb : b ∈ T) (h : a.1 < b.1) : a.2.1 * b.2.2 ≤ b.2.1 * a.2.2 := by
  have inv := turns_inv G n (Nat.le_refl _)
  obtain ⟨m, h1, _, h2, h3, h4⟩ := inv.ring a (p.mem_iff.mp ha)
  obtain ⟨m', h1', _, h2', h3', h4'⟩ := inv.ring b (p.mem_iff.mp hb)
  rw [h3, h4, h3', h4']
  exact G.cross h (inv.lt b (p.mem_iff.mp hb)) h1 h1' h2 h2'
end
section
open PySem PySem.W PyProof.Rows
set_option Elab.async false
set_option maxRecDepth 100000
set_option linter.unusedVariables false
noncomputable section
/-! ## the places are stable ranks -/
noncomputable def belowP (κs : List Nat) (u k : Nat) : Nat := (κs.take u).countP fun x => decide (x < k)
noncomputable def evenP (κs : List Nat) (u k : Nat) : Nat := (κs.take u).countP fun x => x == k
theorem take_succ_getD {κs : List Nat} {u : Nat} (h : u < κs.length) : κs.take (u + 1) = κs.take u ++ [κs.getD u 0] := by
  rw [List.take_add_one, List.getElem?_eq_getElem h, List.getD_eq_getElem?_getD, List.getElem?_eq_getElem h]; rfl
theorem below_succ {κs : List Nat} {u k : Nat} (h : u < κs.length) : belowP κs (u + 1) k = belowP κs u k + if κs.getD u 0 < k then 1 else 0 := by
  unfold belowP
  rw [take_succ_getD h, List.countP_append]
  simp [List.countP_cons]
theorem even_succ {κs : List Nat} {u k : Nat} (h : u < κs.length) : evenP κs (u + 1) k = evenP κs u k + if κs.getD u 0 = k then 1 else 0 := by
  unfold evenP
  rw [take_succ_getD h, List.countP_append]
  simp [List.countP_cons]
theorem kindP_low {κs : List Nat} {t : Nat} (h : t < κs.length) : kindP κs t = κs.getD t 0 := by unfold kindP; rw [Nat.mod_eq_of_lt h]
theorem kindP_high {κs : List Nat} {t : Nat} (h : t < κs.length) : kindP κs (κs.length + t) = κs.getD t 0 := by unfold kindP; rw [Nat.add_mod_left, Nat.mod_eq_of_lt h]
theorem stepC_getD {κs cs : List Nat} {t k : Nat} (hk : k < cs.length) : (stepC κs t cs).getD k 0 = cs.getD k 0 + if bareP κs.length t (kindP κs t) k = true then 1 else 0 := by
  unfold stepC
  rw [List.getD_eq_getElem?_getD, List.getElem?_mapIdx, List.getD_eq_getElem?_getD, List.getElem?_eq_getElem hk]
  show (if _ then _ else _) = _
  split <;> rfl
theorem cs_low (κs : List Nat) {k : Nat} (hk : k < 4) : ∀ t, t ≤ κs.length → (csP κs t).getD k 0 = 1 + belowP κs t k
  | 0, _ => by
    have : belowP κs 0 k = 0 := by simp [belowP]
    rw [this]
    match k, hk with
    | 0, _ => rfl
    | 1, _ => rfl
    | 2, _ => rfl
    | 3, _ => rfl
  | t + 1, h => by
    rw [csP, stepC_getD (by rw [(cok κs t).len]; exact hk), cs_low κs hk t (by lia), below_succ (by lia), kindP_low (by lia)]
    unfold bareP
    rw [if_pos (by lia : t < κs.length)]
    simp only [decide_eq_true_eq]
    lia
theorem cs_high (κs : List Nat) {k : Nat} (hk : k < 4) : ∀ u, u ≤ κs.length → (csP κs (κs.length + u)).getD k 0 = 1 + belowP κs κs.length k + evenP κs u k
  | 0, _ => by
    have : evenP κs 0 k = 0 := by simp [evenP]
    rw [Nat.add_zero, cs_low κs hk _ (Nat.le_refl _), this, Nat.add_zero]
  | u + 1, h => by
    rw [show κs.length + (u + 1) = (κs.length + u) + 1 by lia, csP, stepC_getD (by rw [(cok κs _).len]; exact hk), cs_high κs hk u (by lia), even_succ (by lia), kindP_high (by lia)]
    unfold bareP
    rw [if_neg (by lia : ¬ κs.length + u < κs.length)]
    simp only [beq_iff_eq]
    by_cases e : k = κs.getD u 0
    · rw [if_pos e, if_pos e.symm]; lia
    · rw [if_neg e, if_neg (Ne.symm e)]; lia
theorem pl_low (κs : List Nat) : ∀ t, t ≤ κs.length → plP κs t = []
  | 0, _ => rfl
  | t + 1, h => by rw [plP, if_neg (by lia)]; exact pl_low κs t (by lia)
noncomputable def rankP (κs : List Nat) (i : Nat) : Nat := belowP κs κs.length (κs.getD i 0) + evenP κs i (κs.getD i 0)
theorem pl_high (κs : List Nat) (hκ : ∀ k ∈ κs, k < 4) : ∀ u, u ≤ κs.length → plP κs (κs.length + u) = (List.range u).map (rankP κs)
  | 0, _ => by rw [Nat.add_zero, pl_low κs _ (Nat.le_refl _)]; rfl
  | u + 1, h => by
    have hk : κs.getD u 0 < 4 := by
      rw [List.getD_eq_getElem?_getD, List.getElem?_eq_getElem (by lia)]; exact hκ _ (List.getElem_mem _)
    rw [show κs.length + (u + 1) = (κs.length + u) + 1 by lia, plP, if_pos (by lia), pl_high κs hκ u (by lia), kindP_high (by lia), cs_high κs hk u (by lia), List.range_succ, List.map_append]
    congr 1
    show [_] = [_]
    unfold rankP
    congr 1
    lia
theorem places_is {κs : List Nat} (hκ : ∀ k ∈ κs, k < 4) : placesP κs = (List.range κs.length).map (rankP κs) := by
  unfold placesP
  rw [show 2 * κs.length = κs.length + κs.length by lia]
  exact pl_high κs hκ _ (Nat.le_refl _)
theorem even_mono {κs : List Nat} {k : Nat} : ∀ {u v : Nat}, u ≤ v → v ≤ κs.length → evenP κs u k ≤ evenP κs v k
  | u, 0, h, _ => by rw [show u = 0 by lia]; exact Nat.le_refl _
  | u, v + 1, h, hv => by
    rcases Nat.lt_or_ge u (v + 1) with q | q
    · have := even_mono (κs := κs) (k := k) (u := u) (v := v) (by lia) (by lia)
      rw [even_succ (by lia)]; lia
    · rw [show u = v + 1 by lia]; exact Nat.le_refl _
theorem even_lt {κs : List Nat} {i j : Nat} (h : i < j) (hj : j ≤ κs.length) : evenP κs i (κs.getD i 0) < evenP κs j (κs.getD i 0) := by
  have h1 := even_succ (κs := κs) (u := i) (k := κs.getD i 0) (by lia)
  rw [if_pos rfl] at h1
  have h2 := even_mono (κs := κs) (k := κs.getD i 0) (show i + 1 ≤ j by lia) hj
  lia
theorem below_even (κs : List Nat) (k : Nat) : belowP κs κs.length k + evenP κs κs.length k = belowP κs κs.length (k + 1) := by
  unfold belowP evenP
  rw [List.take_length]
  induction κs with
  | nil => rfl
  | cons a l ih =>
    simp only [List.countP_cons, decide_eq_true_eq, beq_iff_eq]
    by_cases h1 : a < k
    · rw [if_pos h1, if_neg (by lia), if_pos (by lia)]; lia
    · by_cases h2 : a = k
      · rw [if_neg h1, if_pos h2, if_pos (by lia)]; lia
      · rw [if_neg h1, if_neg h2, if_neg (by lia)]; lia
theorem below_mono {κs : List Nat} {k l u : Nat} (h : k ≤ l) : belowP κs u k ≤ belowP κs u l := by
  unfold belowP
  exact List.countP_mono_left fun x _ hx => by simp at hx ⊢; lia
theorem rank_mono {κs : List Nat} {i j : Nat} (hi : i < κs.length) (hj : j < κs.length) (h : κs.getD i 0 < κs.getD j 0 ∨ (κs.getD i 0 = κs.getD j 0 ∧ i < j)) : rankP κs i < rankP κs j := by
  unfold rankP
  rcases h with h | ⟨e, h⟩
  · have h1 := even_lt (κs := κs) (i := i) hi (Nat.le_refl _)
    have h2 := below_even κs (κs.getD i 0)
    have h3 := below_mono (κs := κs) (u := κs.length) (show κs.getD i 0 + 1 ≤ κs.getD j 0 by lia)
    lia
  · have h1 := even_lt (κs := κs) h (Nat.le_of_lt hj)
    rw [← e]; lia
theorem rank_lt {κs : List Nat} {i : Nat} (hi : i < κs.length) : rankP κs i < κs.length := by
  unfold rankP
  have h1 := even_lt (κs := κs) (i := i) hi (Nat.le_refl _)
  have h2 := below_even κs (κs.getD i 0)
  have h3 : belowP κs κs.length (κs.getD i 0 + 1) ≤ κs.length := by
    unfold belowP; rw [List.take_length]; exact List.countP_le_length
  lia
theorem gr_ok {κs : List Nat} {b : Nat} (hκ : ∀ k ∈ κs, k < 4) (hb : b ≤ 12) : GRok κs.length (κs.map fun k => b + k) (placesP κs) := by
  have gw : ∀ i, i < κs.length → (κs.map fun k => b + k).getD i 0 = b + κs.getD i 0 := fun i hi => by
    rw [List.getD_eq_getElem?_getD, List.getElem?_map, List.getD_eq_getElem?_getD, List.getElem?_eq_getElem hi]; rfl
  have gp : ∀ i, i < κs.length → (placesP κs).getD i 0 = rankP κs i := fun i hi => by
    rw [places_is hκ, List.getD_eq_getElem?_getD, List.getElem?_map, List.getElem?_range hi]; rfl
  refine ⟨by simp, by rw [places_is hκ]; simp, fun i hi => by rw [gp i hi]; exact rank_lt hi, fun i j hi hj h => ?_, fun i => ?_⟩
  · rw [gp i hi, gp j hj]
    rw [gw i hi, gw j hj] at h
    exact rank_mono hi hj (by lia)
  · by_cases hi : i < κs.length
    · rw [gw i hi]
      have : κs.getD i 0 < 4 := by
        rw [List.getD_eq_getElem?_getD, List.getElem?_eq_getElem hi]; exact hκ _ (List.getElem_mem _)
      lia
    · rw [List.getD_eq_getElem?_getD, List.getElem?_eq_none (by simpa using hi)]; decide
/-! ## Int2AP of a number's letters -/
theorem apLow_step (n d : Nat) (hd : d < 16) : ∀ i, apLow (16 * n + d) (i + 1) = apLow n i ++ [apLetter d]
  | 0 => by
    show apLetter ((16 * n + d) / 16 ^ 0 % 16) :: [] = [] ++ [apLetter d]
    rw [Nat.pow_zero, Nat.div_one, show (16 * n + d) % 16 = d by lia]; rfl
  | i + 1 => by
    show apLetter ((16 * n + d) / 16 ^ (i + 1) % 16) :: apLow (16 * n + d) (i + 1) = _
    rw [apLow_step n d hd i, Nat.pow_succ', ← Nat.div_div_eq_div_mul, show (16 * n + d) / 16 = n by lia]; rfl
theorem ap_num : ∀ (l : List Nat), (∀ d ∈ l, d < 16) → ap (numF l.reverse) = (l.reverse.dropWhile (· == 0)).map apLetter
  | [], _ => by rw [ap, apLen]; rfl
  | d :: l, h => by
    have ih := ap_num l fun x m => h x (.tail _ m)
    have hd := h d (.head _)
    rw [List.reverse_cons, numF_snoc]
    generalize hm : l.reverse = m at *
    have hap : ap (16 * numF m + d) = if numF m = 0 ∧ d = 0 then [] else ap (numF m) ++ [apLetter d] := by
      unfold ap
      by_cases h0 : 16 * numF m + d = 0
      · rw [if_pos (by lia), h0, apLen]; rfl
      · rw [if_neg (by lia), apLen, if_neg h0, apLow_step _ _ hd, show (16 * numF m + d) / 16 = numF m by lia]
    rw [hap, ih]
    by_cases hz : m.dropWhile (· == 0) = []
    · have hall : ∀ x ∈ m, x = 0 := fun x hx => by
        have key : ∀ (m : List Nat), m.dropWhile (· == 0) = [] → ∀ x ∈ m, x = 0 := fun m => by
          induction m with
          | nil => intro _ x hx; cases hx
          | cons a m ih =>
            intro hh x hx
            rw [List.dropWhile_cons] at hh
            by_cases ha : (a == 0) = true
            · rw [if_pos ha] at hh
              rcases List.mem_cons.mp hx with rfl | hx
              · simpa using ha
              · exact ih hh x hx
            · rw [if_neg ha] at hh; cases hh
        exact key m hz x hx
      have hn0 : numF m = 0 := by
        have key : ∀ (m : List Nat), (∀ x ∈ m, x = 0) → numF m = 0 := fun m => by
          induction m with
          | nil => intro _; rfl
          | cons a m ih => intro hh; rw [numF_cons, hh a (.head _), ih fun x hx => hh x (.tail _ hx)]; simp
        exact key m hall
      rw [List.dropWhile_append_of_pos (fun x hx => by simpa using hall x hx), hn0, hz]
      by_cases hd0 : d = 0
      · subst hd0; rfl
      · rw [if_neg (by lia), List.dropWhile_cons, if_neg (by simpa using hd0)]; rfl
    · have hn0 : numF m ≠ 0 := fun e => by
        rw [e] at ih
        have : ap 0 = [] := by rw [ap, apLen]; rfl
        rw [this] at ih
        exact hz (List.map_eq_nil_iff.mp ih.symm)
      rw [if_neg (by lia)]
      have : (m ++ [d]).dropWhile (· == 0) = m.dropWhile (· == 0) ++ [d] := by
        rw [List.dropWhile_append, if_neg (by simpa using hz)]
      rw [this, List.map_append]; rfl
theorem ap_figs {l : List Nat} (h : ∀ d ∈ l, d < 16) : ap (numF l) = (l.dropWhile (· == 0)).map apLetter := by
  have := ap_num l.reverse fun d m => h d (List.mem_reverse.mp m)
  rwa [List.reverse_reverse] at this
end
end
section
open PySem PySem.W PyProof.Rows
set_option Elab.async false
set_option maxRecDepth 100000
set_option linter.unusedVariables false
set_option maxHeartbeats 4000000
noncomputable section
section
variable {prog : Program} {w : World} {H : Heap} {env : Env} {X Z Z0 Z1 Z2 : List Addr} {μ : List (Addr × MSp)} {ρ : List (Str × Sp)} {h h' : Heap} {A : Around} {E : Value → Shared → Prop} {s : Shared} {n : Nat} {r : Addr}
theorem Fm.loc0 (F : Fm H env X Z μ ρ h) : Loc env [] ρ h := ⟨F.kind, fun x S e => let ⟨m, v, a, b⟩ := F.loc.vars x S e; ⟨m, v, a, m _ _ _ (hid_less (fun a m => nomatch m)) b⟩⟩
/-- the signs of a text -/
theorem itr_str {xs : List Nat} : Itr prog w (fun c : Nat => Tl [c]) xs (Tl xs) := fun A s v Z Q E hh ⟨x, t, e, hx⟩ q => by
  subst e hx
  have go : ∀ (T : String), Walks prog w A s.heap.objs.size [s.heap.objs.size] [s.heap.objs.size] x.cps.size (SignAt x) (fun i h => h.IsStrIter s.heap.objs.size T x t i) →
      Q (.ref s.heap.objs.size) { s with heap := s.heap.push { cls := .type T, data := .fields #[.str x t, .int 0 0] } } := fun T W => by
    refine q s.heap.objs.size [s.heap.objs.size] (SignAt x) (fun i h => h.IsStrIter s.heap.objs.size T x t i) _ ⟨_, s.toks, rfl, fun b o e => Heap.get?_push_of_some _ e⟩ (Nat.le_refl _) ?_ ?_ ?_ ?_ ?_ ?_
    · intro b hb
      simp only [List.mem_cons, List.not_mem_nil, or_false] at hb
      subst hb
      exact ⟨by rw [Heap.size_push]; exact Nat.lt_succ_self _, .inl rfl⟩
    · have e : x.cps.toList.length = x.cps.size := by simp
      rw [e]; exact W
    · exact ⟨_, Heap.get?_push_size _ rfl, rfl, rfl⟩
    · rintro i u ⟨c, u', hc, rfl⟩
      exact ⟨c, by simp [hc], ⟨#[c]⟩, u', rfl, rfl⟩
    · rintro A' i i' u tg Q' E' s'' ⟨c, u', hc, rfl⟩ _ q'
      unfold letOwnedTupleGo
      split <;> exact wpAny_pure q'
    · intro i h st
      obtain ⟨o, e, _⟩ := st
      exact ⟨_, e⟩
  cases ha : x.cps.all (· < 128)
  · exact wpAny_pyIter_wide ha (go _ (Walks.strWide hh _ x t))
  · exact wpAny_pyIter_ascii ha (go _ (Walks.strAscii hh _ x t))
/-- is there anything in the list -/
theorem evb_list {α : Type} {R : α → Sp} {xs : List α} {e : Expr} (ev : EV prog w n Z env h e (Ls R xs)) (hs : xs.length ≤ sizeLine) (he : isTrue e env (eval e env) = (do let v ← eval e env; standAt e.pos; holding [v] (truthy v))) : EVb prog w n env h e (!xs.isEmpty) :=
  evb_of ev he fun A s E v rm ⟨l, vs, e, hl, hp⟩ => by
    subst e
    have hn : vs.size = xs.length := by have := hp.length; simp at this; lia
    refine wpAny_truthy_list (plainList_sub (hid_sub Z _) hl).isList (by rw [show sizeLine = 16777216 from rfl] at hs; lia) ⟨?_, keeps_tok s _⟩
    cases xs with
    | nil => have : vs = #[] := Array.size_eq_zero_iff.mp hn; subst this; rfl
    | cons a l =>
      have : vs.isEmpty = false := by
        rw [Array.isEmpty, hn]; rfl
      rw [this]; rfl
end
end
end
section
open PySem PySem.W PyProof.Rows
set_option Elab.async false
set_option maxRecDepth 100000
set_option linter.unusedVariables false
set_option maxHeartbeats 4000000
noncomputable section
theorem fnB_tw (P : Params) : isFnB (K1 P) 161 = true := by kernel_rfl
noncomputable abbrev twEnv (w : World) (L : Nat) : Env := callEnvC (fdOf (K1 w.params) 161) L 161
noncomputable def twB (w : World) : List Stmt := bodyOf (fdOf (K1 w.params) 161)
noncomputable abbrev twσ (word P : List Nat) (x k : Nat) : List (Str × Sp) := [(Str.ofString "word", Ls I (toN word)), (Str.ofString "places", Ls I (toN P)), (Str.ofString "start", I (x : Int)), (Str.ofString "room", I (k : Int))]
theorem wayP_last {n : Nat} {w P : List Nat} (G : GRok n w P) {x : Nat} (hx : x < n) (i : Nat) : ∃ l, (wayP P x i).getLastD 0 = l ∧ l < n ∧ 1 ≤ (wayP P x i).length ∧ (wayP P x i).length ≤ i + 1 ∧ (toN (wayP P x i))[(-1 + ((toN (wayP P x i)).length : Int)).toNat]? = some (l : Int) := by
  obtain ⟨m, h1, h2, h3, _⟩ := wayP_orb P x i
  obtain ⟨m, rfl⟩ : ∃ m', m = m' + 1 := ⟨m - 1, by lia⟩
  have hl : (wayP P x i).length = m + 1 := by rw [h3, orb_len]
  refine ⟨itN (pG P) m x, by rw [h3, orb_succ]; simp, G.pit hx m, by lia, by lia, ?_⟩
  rw [toN_len, hl, show (-1 + ((m + 1 : Nat) : Int)).toNat = m by lia, toN_get (by lia), h3, List.getD_eq_getElem?_getD, orb_get (by lia)]
  rfl
section
variable {prog : Program} {w : World} {H : Heap} {X Z : List Addr} {μ : List (Addr × MSp)} {A : Around} {E : Value → Shared → Prop} {s : Shared} {L : Nat} {Q : Flow → Shared → Prop} {n x k : Nat} {word P : List Nat}
theorem tw_a (F : Fm H (twEnv w L) X Z μ (twσ word P x k) s.heap) (rm : Rm 8 A) (pf : PF (KW w) H) (G : GRok n word P) (hx : x < n) (hn8 : n ≤ 8)
    (q : ∀ s', Like s s' → Fm H (twEnv w L) X Z μ ((Str.ofString "way", Ls I (toN (wayP P x n))) :: twσ word P x k) s'.heap → wpAny (model prog w) A (execs ((twB w).drop 2) (twEnv w L)) Q E s') :
    wpAny (model prog w) A (execs (twB w) (twEnv w L)) Q E s := by
  have ge : GEnv (twEnv w L) := ⟨by kernel_rfl, by kernel_rfl, by kernel_rfl⟩
  have hwl := G.wl
  have hpl := G.pl
  refine' bl_own (R := I) (xs := [(x : Int)]) F rm (fun Z' zl' => ev_list1 zl' (by kernel_rfl) (EV.z (ev_var (Z0 := []) F.loc (by walk_at "lk") (fun _ m => nomatch m) (by decide +kernel)) (flat_I _) Z') mono_I) mono_I (fun a h h' v _ y => y) (.inl (by kernel_rfl)) (by kernel_rfl) fun r s₁ hr l₁ F₁ => ?_
  refine bl_for (H := H) (X := r :: X) (Z := r :: Z) (R := I) (xs := toN word) (S := Ls I (toN word)) (μ := fun i => (r, OL I (toN (wayP P x i))) :: μ) (ρ := fun _ => (Str.ofString "way", V (.ref r)) :: twσ word P x k) (ρt := fun _ a => (Str.ofString "figure", I a) :: (Str.ofString "way", V (.ref r)) :: twσ word P x k)
    F₁ rm (by walk_at "ev") itr_list mono_I (fun _ => rfl) (fun _ => rfl) (fun i a u I' P' H' s' E' ha hR kH F' => tgt_name F' (mono_I _) hR (.inl (by kernel_rfl)) fun s'' l'' F'' => ⟨l'', F''⟩) (fun i a I' P' H' s' E' ha kH l' F' => ?_) fun s₂ l₂ F₂ => ?_
  · obtain ⟨l, hl1, hl2, hl3, hl4, hl5⟩ := wayP_last G hx i
    have hi : i < n := by
      have := List.getElem?_eq_some_iff.mp ha
      obtain ⟨h1, _⟩ := this
      rw [toN_len, hwl] at h1; exact h1
    have hP : (toN P)[((l : Nat) : Int).toNat]? = some ((pG P l : Nat) : Int) := toN_get (by lia)
    have F₃ := F'.perm (List.Perm.swap _ _ _)
    have evx : ∀ {h' : Heap} (F₄ : Fm H' (twEnv w L) (I' :: r :: X) (I' :: r :: Z) ((r, OL I (toN (wayP P x i))) :: (I', P') :: μ) ((Str.ofString "figure", I a) :: (Str.ofString "way", V (.ref r)) :: twσ word P x k) h') (e1 e2 e3 : Pos) (e4 e5 e6 e7 : Pos) {Z0 : List Addr}, EV prog w 8 Z0 (twEnv w L) h'
        (.Subscript (.Name (Str.ofString "places") e1) (.Subscript (.Name (Str.ofString "way") e2) (.UnaryOp .USub (.Constant (.int 1) 0 e3) e4) e5) e6) (I ((pG P l : Nat) : Int)) := fun {h'} F₄ e1 e2 e3 e4 e5 e6 e7 {Z0} => by
      refine EV.z (Z := []) (ev_item (k := ((l : Nat) : Int)) (ev_var F₄.loc (by walk_at "lk") (fun a m => nomatch m) (by decide +kernel)) (ev_item_neg (k := -1) (a := ((l : Nat) : Int)) (ev_own F₄ mono_I (by walk_at "lk") (by decide +kernel) (fun m => nomatch m) (fun a m => nomatch m)) (ev_neg (Z0 := []) ev_int) mono_I (by decide) (by rw [toN_len]; lia) hl5 (by decide)) mono_I (by lia) hP (by lia)) (flat_I _) Z0
    refine bl_if (b := (((pG P l : Nat) : Int) != (x : Int))) rm ?_ fun s₃ k₃ => ?_
    · exact evb_cmpr (Z1 := []) (Z2 := []) (evx F₃ _ _ _ _ _ _ ⟨0, 0, 0, 0⟩) (by walk_at "ev") (mono_I _) (by kernel_rfl) cmp_ne
    · have F₄ := F₃.keep (ksub k₃)
      by_cases he : pG P l = x
      · have e1 : (((pG P l : Nat) : Int) != (x : Int)) = false := by rw [he]; exact bne_self_eq_false _
        rw [e1]
        refine bl_nil (bl_nil ⟨.inl rfl, klike k₃, ?_⟩)
        have e2 : wayP P x (i + 1) = wayP P x i := by rw [wayP, hl1, if_pos he]
        rw [e2]
        exact (F₄.perm (List.Perm.swap _ _ _)).sel (by walk_at "sel")
      · have e1 : (((pG P l : Nat) : Int) != (x : Int)) = true := by rw [bne_iff_ne]; lia
        rw [e1]
        refine bl_append (R := I) (a := ((pG P l : Nat) : Int)) F₄ rm (by rfl) (by kernel_rfl) (by kernel_rfl) (by kernel_rfl) (evx F₄ _ _ _ _ _ _ ⟨0, 0, 0, 0⟩) (by walk_at "ev") mono_I (by rw [toN_len]; show _ ≤ 16777216; lia) fun s₄ l₄ F₅ => bl_nil (bl_nil ⟨.inl rfl, (klike k₃).trans l₄, ?_⟩)
        have e2 : toN (wayP P x (i + 1)) = toN (wayP P x i) ++ [((pG P l : Nat) : Int)] := by rw [wayP, hl1, if_neg he]; simp [toN]
        rw [e2]
        exact (F₅.perm (List.Perm.swap _ _ _)).sel (by walk_at "sel")
  · rw [toN_len, hwl] at F₂
    have G₂ := F₂.give (y := Str.ofString "way") mono_I (by walk_at "lk") hr F.xz
    exact q s₂ (l₁.trans l₂) (G₂.sel (by walk_at "sel"))
end
end
end
section
open PySem PySem.W PyProof.Rows
set_option Elab.async false
set_option maxRecDepth 100000
set_option linter.unusedVariables false
set_option maxHeartbeats 4000000
noncomputable section
noncomputable def itemR (f : Nat) : List Nat × List Nat := if f % 2 = 1 then ([], [65 + f]) else ([65 + f], [])
theorem itemR_cat (f : Nat) : (itemR f).1 ++ (itemR f).2 = [65 + f] := by unfold itemR; split <;> rfl
theorem toN_rev (l : List Nat) : (toN l).reverse = toN l.reverse := by simp [toN]
theorem toN_map (l : List Nat) (g : Nat → Nat) : (toN l).map (fun a : Int => ((g a.toNat : Nat) : Int)) = toN (l.map g) := by simp [toN, Function.comp_def]
theorem take_get {l : List Nat} {i : Nat} {a : Int} (h : (toN l)[i]? = some a) : i < l.length ∧ a = ((l.getD i 0 : Nat) : Int) ∧ l.take (i + 1) = l.take i ++ [l.getD i 0] := by
  obtain ⟨h1, h2⟩ := List.getElem?_eq_some_iff.mp h
  rw [toN_len] at h1
  have h3 := toN_get (l := l) h1
  rw [h] at h3
  exact ⟨h1, Option.some.inj h3, take_succ_getD h1⟩
theorem numF_take {l : List Nat} (h : ∀ d ∈ l, d < 16) (hl : l.length ≤ 8) (i : Nat) : numF (l.take i) < 16 ^ 8 := by
  have key : ∀ (l : List Nat), (∀ d ∈ l, d < 16) → numF l < 16 ^ l.length := fun l => by
    induction l with
    | nil => intro _; simp [numF]
    | cons a l ih =>
      intro hh
      have h1 := ih fun d m => hh d (.tail _ m)
      have h2 := hh a (.head _)
      rw [numF_cons, List.length_cons, Nat.pow_succ]
      have h3 : a * 16 ^ l.length ≤ 15 * 16 ^ l.length := Nat.mul_le_mul_right _ (by lia)
      lia
  refine Nat.lt_of_lt_of_le (key _ fun d m => h d (List.mem_of_mem_take m)) (Nat.pow_le_pow_right (by decide) ?_)
  rw [List.length_take]; lia
noncomputable abbrev twυ (word P : List Nat) (x k m : Nat) (figs : List Nat) : List (Str × Sp) := (Str.ofString "size", I (m : Int)) :: (Str.ofString "figures", Ls I (toN figs)) :: (Str.ofString "way", Ls I (toN (orbG P x m))) :: twσ word P x k
section
variable {prog : Program} {w : World} {H : Heap} {X Z : List Addr} {μ : List (Addr × MSp)} {A : Around} {E : Value → Shared → Prop} {s : Shared} {L : Nat} {Q : Flow → Shared → Prop} {n x k m : Nat} {word P : List Nat}
theorem tw_b (F : Fm H (twEnv w L) X Z μ ((Str.ofString "way", Ls I (toN (orbG P x m))) :: twσ word P x k) s.heap) (rm : Rm 8 A) (ph : PH prog) (pf : PF (KW w) H) (G : GRok n word P) (r : RingG n P x m) (hn8 : n ≤ 8)
    (q : ∀ xr d s', xr ∉ Z → d ∉ Z → Like s s' → Fm H (twEnv w L) (xr :: d :: X) (xr :: d :: Z) ((xr, AccP d (T2 Tl Tl) ((dG word P m x).map itemR)) :: (d, SzO (k : Int)) :: μ) ((Str.ofString "number", I ((nG word P m x : Nat) : Int)) :: (Str.ofString "ring", V (.ref xr)) :: twυ word P x k m (dG word P m x)) s'.heap → wpAny (model prog w) A (execs ((twB w).drop 7) (twEnv w L)) Q E s') :
    wpAny (model prog w) A (execs ((twB w).drop 2) (twEnv w L)) Q E s := by
  have ge : GEnv (twEnv w L) := ⟨by kernel_rfl, by kernel_rfl, by kernel_rfl⟩
  have hwl := G.wl
  have hpl := G.pl
  have hmn := r.mn
  have hol := orb_len P x m
  have hfl := dG_len word P m x
  have hf16 := dG_lt G m x
  -- figures
  refine bl_compn (R := I) (R' := I) (xs := (toN (orbG P x m)).reverse) (f := fun a : Int => ((word.getD a.toNat 0 : Nat) : Int)) (ρc := [(Str.ofString "word", Ls I (toN word))]) F rm (S := Ls I (toN (orbG P x m)).reverse) ?_ itr_list mono_I mono_I (by rw [List.length_reverse, toN_len]; show _ ≤ 16777216; lia) (by walk_at "sc") (by walk_at "cap") (fun _ => rfl) (.inl (by kernel_rfl)) (by kernel_rfl) (fun i a C D I' h' hk k' l' zl' => ?_) fun s₁ l₁ F₁ => ?_
  · exact ev_cutrev F.live (by walk_at "ev") (ev_slice F.live evp_none evp_none (evp_some (ev_neg (Z0 := []) (a := 1) ev_int))) mono_I (by rw [toN_len]; show _ ≤ 16777216; lia)
  · have hm : a ∈ toN (orbG P x m) := List.mem_reverse.mp (List.mem_of_getElem? hk)
    obtain ⟨q', hq, rfl⟩ := List.mem_map.mp hm
    obtain ⟨j, _, rfl⟩ := List.mem_map.mp hq
    have hlt := r.lt G j
    have hw : (toN word)[((itN (pG P) j x : Nat) : Int).toNat]? = some ((word.getD (itN (pG P) j x) 0 : Nat) : Int) := toN_get (by rw [Int.toNat_natCast]; lia)
    exact ev_item (k := ((itN (pG P) j x : Nat) : Int)) (by walk_at "ev") (by walk_at "ev") mono_I (by lia) hw (by lia)
  rw [toN_rev, toN_map _ (fun q => word.getD q 0), ring_figs G r] at F₁
  have p1 := pf.sub F₁.sub
  generalize hfig : dG word P m x = figs at *
  -- size
  refine' bl_assign (S := I (m : Int)) F₁ rm (EV.eqI (a := ((toN figs).length : Int)) (by rw [toN_len, hfl]) (ev_call1 rfl rfl (by walk_at "ev") (by walk_at "cw") (by walk_at "ev") (mono_Ls mono_I _) (call_lenlist (by rw [toN_len]; lia)))) (mono_I _) (.inl (by kernel_rfl)) (by kernel_rfl) fun s₂ l₂ F₂ => ?_
  -- ring
  refine bl_newP (R := T2 Tl Tl) (i := (k : Int)) F₂ rm (by decide) ph pf ge (by kernel_rfl) rfl (by kernel_rfl) (by walk_at "ev") (mono_T2 mono_Tl mono_Tl) (.inl (by kernel_rfl)) (by kernel_rfl) fun xr d s₃ l₃ hxr hd F₃ => ?_
  -- number
  refine' bl_assign (S := I ((numF (figs.take 0) : Nat) : Int)) F₃ rm ev_int (mono_I _) (.inl (by kernel_rfl)) (by kernel_rfl) fun s₄ l₄ F₄ => ?_
  have F₄' := F₄.sel (ρ' := (Str.ofString "number", I ((numF (figs.take 0) : Nat) : Int)) :: (Str.ofString "ring", V (.ref xr)) :: twυ word P x k m figs) (by walk_at "sel")
  refine bl_for (H := H) (X := xr :: d :: X) (Z := xr :: d :: Z) (R := I) (xs := toN figs) (S := Ls I (toN figs)) (μ := fun i => (xr, AccP d (T2 Tl Tl) ((figs.take i).map itemR)) :: (d, SzO (k : Int)) :: μ)
    (ρ := fun i => (Str.ofString "number", I ((numF (figs.take i) : Nat) : Int)) :: (Str.ofString "ring", V (.ref xr)) :: twυ word P x k m figs)
    (ρt := fun i a => (Str.ofString "figure", I a) :: (Str.ofString "number", I ((numF (figs.take i) : Nat) : Int)) :: (Str.ofString "ring", V (.ref xr)) :: twυ word P x k m figs)
    F₄' rm (by walk_at "ev") itr_list mono_I (fun _ => rfl) (fun _ => rfl) (fun i a u I' P' H' s' E' ha hR kH F' => tgt_name F' (mono_I _) hR (.inl (by kernel_rfl)) fun s'' l'' F'' => ⟨l'', F''⟩) (fun i a I' P' H' s' E' ha kH l' F' => ?_) fun s₅ l₅ F₅ => ?_
  · obtain ⟨hi, rfl, htk⟩ := take_get ha
    have pf' := pf.sub kH
    have hd16 : figs.getD i 0 < 16 := by
      rw [List.getD_eq_getElem?_getD, List.getElem?_eq_getElem hi]; exact hf16 _ (List.getElem_mem _)
    have hnum := numF_take hf16 (by lia) i
    have p16 : (16 : Nat) ^ 8 = 4294967296 := rfl
    have F'' := F'.perm perm87.symm
    have p2 := pf'.sub F''.sub
    generalize hg : figs.getD i 0 = g at *
    have tb : EVb prog w 8 (twEnv w L) s'.heap (.BinOp (.Name (Str.ofString "figure") ⟨85, 24, 85, 30⟩) .Mod (.Constant (.int 2) 0 ⟨85, 33, 85, 34⟩) ⟨85, 24, 85, 34⟩) (((g % 2 : Nat) : Int) != 0) :=
      evb_int (Z := []) (EV.eqI (a := (g : Int).fmod 2) (fmod_nat g 2) (ev_binr (by walk_at "ev") (by walk_at "ev") (mono_I _) (bin_mod (by decide)))) (by kernel_rfl)
    have tb2 : EVb prog w 8 (twEnv w L) s'.heap (.BinOp (.Name (Str.ofString "figure") ⟨85, 78, 85, 84⟩) .Mod (.Constant (.int 2) 0 ⟨85, 87, 85, 88⟩) ⟨85, 78, 85, 88⟩) (((g % 2 : Nat) : Int) != 0) :=
      evb_int (Z := []) (EV.eqI (a := (g : Int).fmod 2) (fmod_nat g 2) (ev_binr (by walk_at "ev") (by walk_at "ev") (mono_I _) (bin_mod (by decide)))) (by kernel_rfl)
    have yes : (((g % 2 : Nat) : Int) != 0) = true → itemR g = ([], [65 + g]) := fun h => by
      rw [bne_iff_ne] at h
      unfold itemR; rw [if_pos (by lia)]
    have no : (((g % 2 : Nat) : Int) != 0) = false → itemR g = ([65 + g], []) := fun h => by
      rw [bne_eq_false_iff_eq] at h
      unfold itemR; rw [if_neg (by lia)]
    refine bl_pushP (Ra := Tl) (Rb := Tl) (a := (itemR g).1) (b := (itemR g).2) F'' rm (by decide) pf' rfl (by kernel_rfl) (by kernel_rfl) (by kernel_rfl) (by rw [List.length_map, List.length_take]; lia) (by walk_at "ev") (ev_if tb (fun hb => ?_) (fun hb => ?_)) (ev_if tb2 (fun hb => ?_) (fun hb => ?_)) mono_Tl mono_Tl fun s₆ l₆ F₆ => ?_
    · rw [yes hb]; exact ev_tl rfl
    · rw [no hb]
      exact ev_call1 rfl rfl (by walk_at "ev") (by walk_at "cw") (S1 := I ((65 + g : Nat) : Int)) (EV.eqI (a := 65 + (g : Int)) (by lia) (by walk_at "ev")) (mono_I _) (call_chr (i := ((65 + g : Nat) : Int)) (by lia) (by lia))
    · rw [yes hb]
      exact ev_call1 rfl rfl (by walk_at "ev") (by walk_at "cw") (S1 := I ((65 + g : Nat) : Int)) (EV.eqI (a := 65 + (g : Int)) (by lia) (by walk_at "ev")) (mono_I _) (call_chr (i := ((65 + g : Nat) : Int)) (by lia) (by lia))
    · rw [no hb]; exact ev_tl rfl
    · refine' bl_assign (S := I ((numF (figs.take (i + 1)) : Nat) : Int)) F₆ rm (EV.eqI (a := 16 * ((numF (figs.take i) : Nat) : Int) + (g : Int)) (by rw [htk, numF_snoc]; lia) (ev_binr (ev_binr (by walk_at "ev") (by walk_at "ev") (mono_I _) (bin_mul (mul_ok (by decide)))) (by walk_at "ev") (mono_I _) bin_add)) (mono_I _) (.inl (by kernel_rfl)) (by kernel_rfl) fun s₇ l₇ F₇ => bl_nil ⟨.inl rfl, l₆.trans l₇, ?_⟩
      have e2 : (figs.take (i + 1)).map itemR = (figs.take i).map itemR ++ [((itemR g).1, (itemR g).2)] := by rw [htk, List.map_append]; rfl
      rw [e2]
      exact (F₇.perm perm87).sel (by walk_at "sel")
  · rw [toN_len, List.take_length] at F₅
    have e : numF figs = nG word P m x := by rw [← hfig, dG_num]
    rw [e] at F₅
    exact q xr d s₅ hxr hd ((l₁.trans l₂).trans ((l₃.trans l₄).trans l₅)) F₅
end
end
end
section
open PySem PySem.W PyProof.Rows
set_option Elab.async false
set_option maxRecDepth 100000
set_option linter.unusedVariables false
set_option maxHeartbeats 4000000
noncomputable section
noncomputable def castT (l : List (Nat × Nat × Nat)) : List (Int × Int × Int) := l.map fun t => ((t.1 : Int), (t.2.1 : Int), (t.2.2 : Int))
theorem castT_len (l : List (Nat × Nat × Nat)) : (castT l).length = l.length := by simp [castT]
noncomputable abbrev R3 : Int × Int × Int → Sp := T3 I I I
theorem mono_R3 (a) : Mono (R3 a) := mono_T3 mono_I mono_I mono_I a
noncomputable abbrev twμ (xr d rt : Addr) (figs : List Nat) (kk : Nat) (T : List (Nat × Nat × Nat)) (μ : List (Addr × MSp)) : List (Addr × MSp) :=
  (xr, AccP d (T2 Tl Tl) (figs.map itemR)) :: (d, SzO (kk : Int)) :: (87, TabO) :: (94, TabO) :: (rt, OL R3 (castT T)) :: μ
noncomputable abbrev twρ (word P : List Nat) (x k m : Nat) (xr rt : Addr) (figs : List Nat) (N : Nat) : List (Str × Sp) := (Str.ofString "turned", V (.ref rt)) :: (Str.ofString "number", I (N : Int)) :: (Str.ofString "ring", V (.ref xr)) :: twυ word P x k m figs
noncomputable def dueL (figs : List Nat) : List Nat := figs.map (65 + ·)
noncomputable def lettersL (figs : List Nat) : Array UInt8 := byteArr (((dueL figs).dropWhile (· == 65)).map fun c => ((c : Nat) : Int))
theorem strCat_items (figs : List Nat) : strCat (figs.map itemR) = dueL figs := by
  unfold strCat dueL
  rw [List.map_map]
  have : ((fun p : List Nat × List Nat => p.1 ++ p.2) ∘ itemR) = fun f => [65 + f] := by funext f; exact itemR_cat f
  rw [this]
  induction figs with
  | nil => rfl
  | cons a l ih => rw [List.map_cons, List.flatten_cons, ih]; rfl
theorem lenSum_itemR (figs : List Nat) : lenSum (figs.map itemR) = figs.length := by
  unfold lenSum
  rw [List.map_map]
  have : ((fun p : List Nat × List Nat => p.1.length + p.2.length) ∘ itemR) = fun f => 1 := by
    funext f; show (itemR f).1.length + (itemR f).2.length = 1; unfold itemR; split <;> rfl
  rw [this]
  induction figs with
  | nil => rfl
  | cons a l ih => rw [List.map_cons, List.sum_cons, ih, List.length_cons]; lia
theorem itemR_len (f : Nat) : (itemR f).1.length + (itemR f).2.length ≤ 1 := by unfold itemR; split <;> simp
theorem due_flat (figs : List Nat) : (((toN figs).map fun a : Int => [65 + a.toNat])).flatten = dueL figs := by
  unfold dueL toN
  induction figs with
  | nil => rfl
  | cons a l ih => rw [List.map_cons, List.map_cons, List.flatten_cons, ih]; rfl
theorem letters_ap {figs : List Nat} (h : ∀ d ∈ figs, d < 16) : (lettersL figs).toList = ap (numF figs) := by
  rw [ap_figs h]
  unfold lettersL byteArr dueL
  rw [List.dropWhile_map, List.map_map, List.map_map]
  have e : ((fun x => x == 65) ∘ (fun x => 65 + x)) = fun d : Nat => d == 0 := by
    funext d
    show (65 + d == 65) = (d == 0)
    rw [Bool.eq_iff_iff, beq_iff_eq, beq_iff_eq]; lia
  rw [e]
  show List.map _ _ = _
  apply List.map_congr_left
  intro d _
  rfl
section
variable {prog : Program} {w : World} {H : Heap} {X Z : List Addr} {μ : List (Addr × MSp)} {A : Around} {E : Value → Shared → Prop} {s : Shared} {L : Nat} {Q : Flow → Shared → Prop}
/-- if l op r or e2: .., both are no -/
theorem bl_or_no {n : Nat} {env : Env} {op : CmpOp} {l rr e2 : Expr} {p1 p2 pos : Pos} {body rest : List Stmt} (rm : Rm n A) (hm : behindInMarks op rr = false)
    (h : wpAny (model prog w) A (eval l env) (fun a s₁ => wpAny (model prog w) A (eval rr env) (fun b s₂ => wpAny (model prog w) A (compareOp op a b) (fun c s₃ => c = .bool false ∧ EVb prog w n env s₃.heap e2 false ∧ ∀ s₄, Keeps s₃ s₄ → wpAny (model prog w) A (execs rest env) Q E s₄) E s₂) E s₁) E s) :
    wpAny (model prog w) A (execs (.If (.BoolOp .Or [.Compare l [op] [rr] p1, e2] p2) body [] pos :: rest) env) Q E s := by
  refine wpAny_execs_cons (wpAny_If (wpAny_isTrue_BoolOp (wpAny_allTrue_Or_cons (wpAny_isTrue_Compare1 (wpAny_mono h (fun a s₁ h₁ => wpAny_mono h₁ (fun b s₂ h₂ => wpAny_mono h₂ (fun c s₃ ⟨e, ev, hq⟩ => ?_) fun _ _ e => e) fun _ _ e => e) fun _ _ e => e) hm))))
  subst e
  refine wpAny_truthy_bool ?_
  show wpAny _ _ (allTrue .Or [e2] _) _ _ _
  refine wpAny_allTrue_Or_cons (wpAny_mono (ev A s₃ _ rm (Sub.refl _)) (fun r s₄ ⟨e, k₄⟩ => ?_) fun _ _ e => e)
  subst e
  show wpAny _ _ (allTrue .Or [] _) _ _ _
  refine wpAny_allTrue_Or_nil ?_
  show wpAny _ _ (execs [] _) _ _ _
  exact wpAny_execs_nil (hq s₄ k₄)
theorem bl_cmp_no {env : Env} {op : CmpOp} {l rr : Expr} {p1 pos : Pos} {body rest : List Stmt} (hm : behindInMarks op rr = false)
    (h : wpAny (model prog w) A (eval l env) (fun a s₁ => wpAny (model prog w) A (eval rr env) (fun b s₂ => wpAny (model prog w) A (compareOp op a b) (fun c s₃ => c = .bool false ∧ wpAny (model prog w) A (execs rest env) Q E s₃) E s₂) E s₁) E s) :
    wpAny (model prog w) A (execs (.If (.Compare l [op] [rr] p1) body [] pos :: rest) env) Q E s := by
  refine wpAny_execs_cons (wpAny_If (wpAny_isTrue_Compare1 (wpAny_mono h (fun a s₁ h₁ => wpAny_mono h₁ (fun b s₂ h₂ => wpAny_mono h₂ (fun c s₃ ⟨e, hq⟩ => ?_) fun _ _ e => e) fun _ _ e => e) fun _ _ e => e) hm))
  subst e
  refine wpAny_truthy_bool ?_
  show wpAny _ _ (execs [] _) _ _ _
  exact wpAny_execs_nil hq
noncomputable def twBody (w : World) : List Stmt := forBody ((twB w)[8]?)
variable {n x k m kk v N : Nat} {word P figs : List Nat} {T : List (Nat × Nat × Nat)} {xr d rt : Addr}
/-- due, letters; the text -/
theorem tw_t1 (F : Fm H (twEnv w L) X Z (twμ xr d rt figs kk T μ) ((Str.ofString "place", I (v : Int)) :: twρ word P x k m xr rt figs N) s.heap) (rm : Rm 8 A) (pf : PF (KW w) H) (bm : BM H) (hf16 : ∀ d ∈ figs, d < 16) (hfl : figs.length ≤ 8) (hN : N = numF figs)
    (q : ∀ s', LikeG s s' → Fm H (twEnv w L) X Z (twμ xr d rt figs kk T μ) ((Str.ofString "due", Tl (dueL figs)) :: (Str.ofString "place", I (v : Int)) :: twρ word P x k m xr rt figs N) s'.heap → wpAny (model prog w) A (execs ((twBody w).drop 3) (twEnv w L)) Q E s') :
    wpAny (model prog w) A (execs (twBody w) (twEnv w L)) Q E s := by
  have ge : GEnv (twEnv w L) := ⟨by kernel_rfl, by kernel_rfl, by kernel_rfl⟩
  have p0 := pf.sub F.sub
  have hdl : (dueL figs).length = figs.length := by simp [dueL]
  -- due
  refine' bl_assign (S := Tl (dueL figs)) F rm ?_ (mono_Tl _) (.inl (by kernel_rfl)) (by kernel_rfl) fun s₁ l₁ F₁ => ?_
  · rw [← due_flat]
    refine ev_join (by kernel_rfl) (by kernel_rfl) (by kernel_rfl) (ev_tl rfl) ?_ (by rw [due_flat, hdl]; lia)
    refine ev_compn (R := I) (R' := Tl) (xs := toN figs) (ρc := []) F.loc0 (by walk_at "ev") itr_list mono_I mono_Tl (by rw [toN_len]; show _ ≤ 16777216; lia) (by walk_at "sc") .nil (fun _ => rfl) (fun a m => nomatch m) fun i a C D I' h' ha k' l' zl' => ?_
    have p1 := p0.sub k'
    obtain ⟨hi, rfl, _⟩ := take_get ha
    have hd16 : figs.getD i 0 < 16 := by
      rw [List.getD_eq_getElem?_getD, List.getElem?_eq_getElem hi]; exact hf16 _ (List.getElem_mem _)
    generalize figs.getD i 0 = g at *
    exact ev_call1 rfl rfl (by walk_at "ev") (by walk_at "cw") (S1 := I ((65 + g : Nat) : Int)) (EV.eqI (a := 65 + (g : Int)) (by lia) (by walk_at "ev")) (mono_I _) (call_chr (i := ((65 + g : Nat) : Int)) (by lia) (by lia))
  -- letters
  have p1 := pf.sub F₁.sub
  have hdw : ((dueL figs).dropWhile (· == 65)).length ≤ figs.length := by
    rw [← hdl]; exact (List.dropWhile_sublist _).length_le
  refine' bl_assign (S := By (lettersL figs)) F₁ rm ?_ (flat_By _).mono (.inl (by kernel_rfl)) (by kernel_rfl) fun s₂ l₂ F₂ => ?_
  · refine ev_call1 rfl rfl (by walk_at "ev") (by walk_at "cw") (S1 := Ls I (((dueL figs).dropWhile (· == 65)).map fun c => ((c : Nat) : Int))) ?_ (mono_Ls mono_I _) (call_bytes (fun y hy => ?_) (by rw [List.length_map]; show _ ≤ 16777216; lia))
    · refine ev_compn (R := fun c : Nat => Tl [c]) (R' := I) (xs := (dueL figs).dropWhile (· == 65)) (ρc := []) F₁.loc0 (S := Tl ((dueL figs).dropWhile (· == 65))) ?_ itr_str (fun c => mono_Tl _) mono_I (by show _ ≤ 16777216; lia) (by walk_at "sc") .nil (fun _ => rfl) (fun a m => nomatch m) fun i a C D I' h' ha k' l' zl' => ?_
      · exact ev_lstrip (by kernel_rfl) (by kernel_rfl) (by kernel_rfl) (ev_var F₁.loc0 (by walk_at "lk") (fun _ h => h) (by decide +kernel)) (ev_tl rfl) (by show _ ≤ 16777216; lia)
      · have p2 := p1.sub k'
        exact ev_call1 rfl rfl (by walk_at "ev") (by walk_at "cw") (by walk_at "ev") (mono_Tl _) call_ord
    · obtain ⟨c, hc, rfl⟩ := List.mem_map.mp hy
      have hc2 := (List.dropWhile_sublist _).mem hc
      obtain ⟨g, hg, rfl⟩ := List.mem_map.mp hc2
      have := hf16 g hg
      lia
  -- the test
  refine bl_or_no rm (by kernel_rfl) ?_
  refine wp_strP F₂ rm (by decide) pf bm ge (by kernel_rfl) rfl (by kernel_rfl) (by walk_at "ev") (by rw [List.length_map]; lia) (by rw [strCat_items, hdl]; lia) fun v₃ s₃ lg F₃ hv => ?_
  rw [strCat_items] at hv
  refine wp_ev (h := s₃.heap) (n := 8) (Z := []) (S := Tl (dueL figs)) (by walk_at "ev") rm (Sub.refl _) fun u s₄ k₄ hu => ?_
  refine wpAny_mono (cmp_ne_tl (prog := prog) (w := w) (n := 8) A s₄ [] [] _ _ _ rm hv hu) (fun b s₅ ⟨k₅, e⟩ => ?_) fun _ _ e => e
  subst e
  have F₅ := (F₃.keep (ksub k₄)).keep (ksub k₅)
  have p5 := pf.sub F₅.sub
  have hnum := numF_take hf16 hfl figs.length
  rw [List.take_length, ← hN] at hnum
  have p16 : (16 : Nat) ^ 8 = 4294967296 := rfl
  have p20 : (16 : Nat) ^ 20 = 1208925819614629174706176 := rfl
  refine ⟨by rw [bne_self_eq_false], ?_, fun s₆ k₆ => q s₆ ?_ ?_⟩
  · have e : ((ap N).toArray.toList != (lettersL figs).toList) = false := by rw [letters_ap hf16, ← hN]; exact bne_self_eq_false _
    rw [← e]
    refine evb_cmpr (Z1 := []) (Z2 := []) (S1 := By (ap N).toArray) ?_ (by walk_at "ev") (flat_By _).mono (by kernel_rfl) cmp_ne_by
    have tb : EVb prog w 8 (twEnv w L) s₅.heap (.BinOp (.Name (Str.ofString "place") ⟨91, 49, 91, 54⟩) .Mod (.Constant (.int 2) 0 ⟨91, 57, 91, 58⟩) ⟨91, 49, 91, 58⟩) (((v % 2 : Nat) : Int) != 0) :=
      evb_int (Z := []) (EV.eqI (a := (v : Int).fmod 2) (fmod_nat v 2) (ev_binr (by walk_at "ev") (by walk_at "ev") (mono_I _) (bin_mod (by decide)))) (by kernel_rfl)
    generalize hb : (((v % 2 : Nat) : Int) != 0) = b at tb
    have hM : (if b = true then -(N : Int) else (N : Int)).natAbs = N := by split <;> lia
    have evM : EV prog w 8 [] (twEnv w L) s₅.heap (.IfExp (.BinOp (.Name (Str.ofString "place") ⟨91, 49, 91, 54⟩) .Mod (.Constant (.int 2) 0 ⟨91, 57, 91, 58⟩) ⟨91, 49, 91, 58⟩) (.UnaryOp .USub (.Name (Str.ofString "number") ⟨91, 39, 91, 45⟩) ⟨91, 38, 91, 45⟩) (.Name (Str.ofString "number") ⟨91, 64, 91, 70⟩) ⟨91, 38, 91, 70⟩) (I (if b = true then -(N : Int) else (N : Int))) := by
      refine ev_if tb (fun h => ?_) (fun h => ?_)
      · rw [if_pos h]; exact ev_neg (Z0 := []) (by walk_at "ev")
      · rw [if_neg (by rw [h]; exact Bool.false_ne_true)]; walk_at "ev"
    generalize hMe : (if b = true then -(N : Int) else (N : Int)) = M at *
    have := ev_pc1 (Z := []) (S := By (ap M.natAbs).toArray) (n := 8) (h := s₅.heap) (env := twEnv w L) (pos := ⟨91, 31, 91, 71⟩) (e1 := .IfExp (.BinOp (.Name (Str.ofString "place") ⟨91, 49, 91, 54⟩) .Mod (.Constant (.int 2) 0 ⟨91, 57, 91, 58⟩) ⟨91, 49, 91, 58⟩) (.UnaryOp .USub (.Name (Str.ofString "number") ⟨91, 39, 91, 45⟩) ⟨91, 38, 91, 45⟩) (.Name (Str.ofString "number") ⟨91, 64, 91, 70⟩) ⟨91, 38, 91, 70⟩) (f := .Name (Str.ofString "Int2AP") ⟨91, 31, 91, 37⟩) rfl rfl (by walk_at "ev") (fnAt_of p5.X p5.nl (fnB_ap w.params)).1 (List.forall_mem_nil _) evM (mono_I _) (pc_ap p5 (by lia))
    rw [hM] at this
    exact this
  · exact (l₁.trans l₂).g.trans (lg.trans (((klike k₄).trans (klike k₅)).trans (klike k₆)).g)
  · exact (F₅.keep (ksub k₆)).sel (by walk_at "sel")
end
end
end
section
open PySem PySem.W PyProof.Rows
set_option Elab.async false
set_option maxRecDepth 100000
set_option linter.unusedVariables false
set_option maxHeartbeats 4000000
noncomputable section
section
variable {prog : Program} {w : World} {H : Heap} {X Z : List Addr} {μ : List (Addr × MSp)} {A : Around} {E : Value → Shared → Prop} {s : Shared} {L : Nat} {Q : Flow → Shared → Prop}
variable {n x k m kk v N : Nat} {word P figs : List Nat} {T : List (Nat × Nat × Nat)} {xr d rt : Addr}
noncomputable abbrev twδ (word P : List Nat) (x k m : Nat) (xr rt : Addr) (figs : List Nat) (N v : Nat) : List (Str × Sp) := (Str.ofString "due", Tl (dueL figs)) :: (Str.ofString "place", I (v : Int)) :: twρ word P x k m xr rt figs N
theorem mu_rt {α : Type} {a b c e r : α} {l : List α} : (a :: b :: c :: e :: r :: l).Perm (r :: a :: b :: c :: e :: l) := List.perm_middle (l₁ := [a, b, c, e])
/-- the length; no turning twice; told -/
theorem tw_t2 (F : Fm H (twEnv w L) X Z (twμ xr d rt figs kk T μ) (twδ word P x k m xr rt figs N v) s.heap) (rm : Rm 8 A) (pf : PF (KW w) H) (bm : BM H) (hfl : figs.length = m) (hm8 : m ≤ 8) (hkk : kk = if T = [] then k else 0) (hk2 : k ≤ 2) (hT8 : T.length ≤ 8) (hN : ∀ t ∈ T, t.2.1 ≠ N)
    (q : ∀ s', LikeG s s' → Fm H (twEnv w L) X Z (twμ xr d rt figs kk (T ++ [(v, N, 16 ^ m - 1)]) μ) (twδ word P x k m xr rt figs N v) s'.heap → wpAny (model prog w) A (execs ((twBody w).drop 5) (twEnv w L)) Q E s') :
    wpAny (model prog w) A (execs ((twBody w).drop 3) (twEnv w L)) Q E s := by
  have ge : GEnv (twEnv w L) := ⟨by kernel_rfl, by kernel_rfl, by kernel_rfl⟩
  have hkk2 : kk ≤ 2 := by rw [hkk]; split <;> lia
  refine bl_or_no rm (by kernel_rfl) ?_
  refine wp_lenP (m := 1) F rm (by decide) pf bm ge (by kernel_rfl) rfl (by kernel_rfl) (by walk_at "ev") (by rw [List.length_map]; lia) (fun p hp => ?_) (by decide) (by lia) (by lia) fun t s₁ lg F₁ => ?_
  · obtain ⟨f, _, rfl⟩ := List.mem_map.mp hp
    exact itemR_len f
  rw [lenSum_itemR, hfl]
  have G₁ := F₁.perm mu_rt
  have hTe : (!(castT T).isEmpty) = !(decide (T = [])) := by cases T <;> rfl
  refine wp_ev (h := s₁.heap) (n := 8) (Z := []) (S := I ((kk : Int) + (m : Int))) ?_ rm (Sub.refl _) fun u s₂ k₂ hu => ?_
  · refine EV.eqI (a := (m : Int) + (kk : Int)) (by lia) (ev_binr (by walk_at "ev") ?_ (mono_I _) bin_add)
    refine ev_if (b := !(castT T).isEmpty) (evb_list (Z := []) (ev_own (Zr := []) G₁ mono_R3 (by walk_at "lk") (by decide +kernel) (fun m => nomatch m) (fun a m => nomatch m)) (by rw [castT_len]; show _ ≤ 16777216; lia) (by kernel_rfl)) (fun hb => ?_) (fun hb => ?_)
    · rw [hTe, Bool.not_eq_true', decide_eq_false_iff_not] at hb
      rw [if_neg hb] at hkk
      subst hkk
      exact ev_int
    · rw [hTe, Bool.not_eq_false', decide_eq_true_eq] at hb
      rw [if_pos hb] at hkk
      subst hkk
      walk_at "ev"
  obtain ⟨t', rfl⟩ := hu
  refine wpAny_mono (cmp_ne (prog := prog) (w := w) (n := 8) A s₂ [] [] _ _ _ rm ⟨t, rfl⟩ ⟨t', rfl⟩) (fun b s₃ ⟨k₃, e⟩ => ?_) fun _ _ e => e
  subst e
  have F₃ := (F₁.keep (ksub k₂)).keep (ksub k₃)
  have G₃ := F₃.perm mu_rt
  have p3 := pf.sub F₃.sub
  refine ⟨by rw [bne_self_eq_false], ?_, fun s₄ k₄ => ?_⟩
  · have e : ((T.map fun t => (t.2.1 : Int)).any (· == (N : Int))) = false := by
      rw [List.any_eq_false]
      intro y hy
      obtain ⟨t, ht, rfl⟩ := List.mem_map.mp hy
      have := hN t ht
      rw [beq_iff_eq]; lia
    rw [← e]
    refine evb_cmpr (Z1 := []) (Z2 := []) (S1 := I (N : Int)) (S2 := Ls I (T.map fun t => (t.2.1 : Int))) (by walk_at "ev") ?_ (mono_I _) (by kernel_rfl) cmp_in
    have e2 : (T.map fun t => (t.2.1 : Int)) = (castT T).map fun t => t.2.1 := by unfold castT; rw [List.map_map]; rfl
    rw [e2]
    refine ev_compn (R := R3) (R' := I) (xs := castT T) (ρc := []) F₃.loc0 (S := Ls R3 (castT T)) (ev_own G₃ mono_R3 (by walk_at "lk") (by decide +kernel) (fun m => nomatch m) (fun a m => nomatch m)) itr_list mono_R3 mono_I (by rw [castT_len]; show _ ≤ 16777216; lia) (by walk_at "sc") .nil (fun _ => rfl) (fun a m => nomatch m) fun i a C D I' h' ha k' l' zl' => ?_
    refine EV.z (Z := []) (ev_thd (j := 1) (u' := fun a _ _ => a) (ev_var l' lk_here (fun a m => nomatch m) (by decide +kernel)) ev_int mono_I mono_I mono_I rfl (.inr (.inl ⟨rfl, rfl⟩))) (flat_I _) _
  · -- told
    have G₄ := G₃.keep (ksub k₄)
    refine bl_append (R := R3) (a := ((v : Int), (N : Int), ((16 ^ m - 1 : Nat) : Int))) G₄ rm (by rfl) (by kernel_rfl) (by kernel_rfl) (by kernel_rfl) (ev_triple G₄.live (by kernel_rfl) (by walk_at "ev") (mono_I _) (by walk_at "ev") (mono_I _) (EV.eqI (a := (16 : Int) ^ ((m : Int)).toNat - 1) ?_ (ev_binr (ev_binr (by walk_at "ev") (by walk_at "ev") (mono_I _) (bin_pow (by lia) (by lia) (by decide))) (by walk_at "ev") (mono_I _) bin_sub)) (mono_I _)) (by walk_at "ev") mono_R3 (by rw [castT_len]; show _ ≤ 16777216; lia) fun s₅ l₅ F₅ => q s₅ ?_ ?_
    · have h1 : 1 ≤ 16 ^ m := Nat.pow_pos (by decide)
      rw [Int.toNat_natCast]
      show (16 : Int) ^ m - 1 = ((16 ^ m - 1 : Nat) : Int)
      have h2 : ((16 ^ m : Nat) : Int) = (16 : Int) ^ m := by push_cast; rfl
      lia
    · exact lg.trans ((((klike k₂).trans (klike k₃)).trans ((klike k₄).trans l₅)).g)
    · have e2 : castT (T ++ [(v, N, 16 ^ m - 1)]) = castT T ++ [((v : Int), (N : Int), ((16 ^ m - 1 : Nat) : Int))] := by unfold castT; rw [List.map_append]; rfl
      rw [show twμ xr d rt figs kk (T ++ [(v, N, 16 ^ m - 1)]) μ = (xr, AccP d (T2 Tl Tl) (figs.map itemR)) :: (d, SzO (kk : Int)) :: (87, TabO) :: (94, TabO) :: (rt, OL R3 (castT T ++ [((v : Int), (N : Int), ((16 ^ m - 1 : Nat) : Int))])) :: μ by rw [← e2]]
      exact F₅.perm mu_rt.symm
end
end
end
section
open PySem PySem.W PyProof.Rows
set_option Elab.async false
set_option maxRecDepth 100000
set_option linter.unusedVariables false
set_option maxHeartbeats 4000000
noncomputable section
theorem cut_last (l : List Int) (a : Int) : cut (l ++ [a]) (some (-1)) none = [a] := by
  unfold cut
  simp only [Option.elim]
  have h : clipAt (l ++ [a]).length (-1) = l.length := by
    have := clipAt_cast (l ++ [a]).length (-1)
    unfold clipAt
    simp
    lia
  rw [h, List.drop_left]
  simp
theorem cut_init (l : List Int) (a : Int) : cut (l ++ [a]) none (some (-1)) = l := by
  unfold cut
  simp only [Option.elim]
  have h : clipAt (l ++ [a]).length (-1) = l.length := by
    unfold clipAt
    simp
    lia
  rw [h, List.drop_zero, Nat.sub_zero, List.take_left]
section
variable {prog : Program} {w : World} {H : Heap} {X Z : List Addr} {μ : List (Addr × MSp)} {A : Around} {E : Value → Shared → Prop} {s : Shared} {L : Nat} {Q : Flow → Shared → Prop}
variable {n x k m kk v N g : Nat} {word P figs : List Nat} {T : List (Nat × Nat × Nat)} {xr d rt : Addr}
theorem tw_t3 (F : Fm H (twEnv w L) X Z (twμ xr d rt (figs ++ [g]) kk T μ) (twδ word P x k m xr rt (figs ++ [g]) N v) s.heap) (rm : Rm 8 A) (ph : PH prog) (pf : PF (KW w) H) (bm : BM H) (hfl : figs.length + 1 = m) (hm8 : m ≤ 8) (hkk : kk = if T.length = 1 then k else 0) (hk2 : k ≤ 2) (hT8 : T.length ≤ 8)
    (q : ∀ s', LikeG s s' → Fm H (twEnv w L) X Z (twμ xr d rt (g :: figs) 0 T μ) (twρ word P x k m xr rt (g :: figs) (rotN m N)) s'.heap → Q .next s') :
    wpAny (model prog w) A (execs ((twBody w).drop 5) (twEnv w L)) Q E s := by
  have ge : GEnv (twEnv w L) := ⟨by kernel_rfl, by kernel_rfl, by kernel_rfl⟩
  have hkk2 : kk ≤ 2 := by rw [hkk]; split <;> lia
  have e1 : (figs ++ [g]).map itemR = figs.map itemR ++ [itemR g] := by rw [List.map_append]; rfl
  have hdl : (dueL (figs ++ [g])).length = m := by simp [dueL]; lia
  unfold twμ at F
  rw [e1] at F
  -- last = ring.pop(); ahead = ring.pop_from()
  refine bl_popP (R := T2 Tl Tl) (items := figs.map itemR) (a := itemR g) F rm (by decide) ph pf rfl (by kernel_rfl) (by rw [List.length_map]; lia) (by walk_at "ev") (mono_T2 mono_Tl mono_Tl) (.inl (by kernel_rfl)) fun s₁ l₁ F₁ => ?_
  refine bl_popfP (R := T2 Tl Tl) (items := figs.map itemR) F₁ rm (by decide) pf rfl (by kernel_rfl) (by rw [List.length_map]; lia) (by walk_at "ev") (mono_T2 mono_Tl mono_Tl) (.inl (by kernel_rfl)) fun s₂ l₂ F₂ => ?_
  -- the length
  refine bl_cmp_no (by kernel_rfl) ?_
  refine wp_lenP (items := []) (m := 1) F₂ rm (by decide) pf bm ge (by kernel_rfl) rfl (by kernel_rfl) (by walk_at "ev") (by simp) (fun p hp => nomatch hp) (by decide) (by lia) (by lia) fun t s₃ lg F₃ => ?_
  have G₃ := F₃.perm mu_rt
  have p3 := pf.sub F₃.sub
  refine wp_ev (h := s₃.heap) (n := 8) (Z := []) (S := I ((kk : Int) + ((lenSum [] : Nat) : Int))) ?_ rm (Sub.refl _) fun u s₄ k₄ hu => ?_
  · have tb : EVb prog w 8 (twEnv w L) s₃.heap (.Compare (.Call (.Name (Str.ofString "len") ⟨98, 33, 98, 36⟩) [.Name (Str.ofString "turned") ⟨98, 37, 98, 43⟩] [] ⟨98, 33, 98, 44⟩) [.Eq] [.Constant (.int 1) 0 ⟨98, 48, 98, 49⟩] ⟨98, 33, 98, 49⟩) (((castT T).length : Int) == 1) :=
      evb_cmpr (Z1 := []) (Z2 := []) (ev_call1 rfl rfl (by walk_at "ev") (by walk_at "cw") (ev_own (Zr := []) G₃ mono_R3 (by walk_at "lk") (by decide +kernel) (fun m => nomatch m) (fun a m => nomatch m)) (mono_Ls mono_R3 _) (call_lenlist (by rw [castT_len]; lia))) (by walk_at "ev") (mono_I _) (by kernel_rfl) cmp_eq
    refine EV.eqI (a := (kk : Int)) (by show (kk : Int) = (kk : Int) + ((0 : Nat) : Int); lia) (ev_if tb (fun hb => ?_) (fun hb => ?_))
    · rw [beq_iff_eq, castT_len] at hb
      rw [if_pos (by lia)] at hkk
      subst hkk
      walk_at "ev"
    · rw [beq_eq_false_iff_ne, castT_len] at hb
      rw [if_neg (by lia)] at hkk
      subst hkk
      exact ev_int
  obtain ⟨t', rfl⟩ := hu
  refine wpAny_mono (cmp_ne (prog := prog) (w := w) (n := 8) A s₄ [] [] _ _ _ rm ⟨t, rfl⟩ ⟨t', rfl⟩) (fun b s₅ ⟨k₅, e⟩ => ?_) fun _ _ e => e
  subst e
  refine ⟨by rw [bne_self_eq_false], ?_⟩
  have F₅ := (F₃.keep (ksub k₄)).keep (ksub k₅)
  -- ring.push(due, due)
  refine bl_pushP (Ra := Tl) (Rb := Tl) (items := []) (a := dueL (figs ++ [g])) (b := dueL (figs ++ [g])) F₅ rm (by decide) pf rfl (by kernel_rfl) (by kernel_rfl) (by kernel_rfl) (by simp) (by walk_at "ev") (by walk_at "ev") (by walk_at "ev") mono_Tl mono_Tl fun s₆ l₆ F₆ => ?_
  -- ring.reset([last] + ahead)
  refine bl_resetP (R := T2 Tl Tl) (new := [itemR g] ++ figs.map itemR) F₆ rm (by decide) pf rfl (by kernel_rfl) (by kernel_rfl) (by kernel_rfl) (by simp) (by simp; lia) (by walk_at "ev") (ev_binz F₆.live (ev_list1 F₆.live (by kernel_rfl) (by walk_at "ev") (mono_T2 mono_Tl mono_Tl)) (by walk_at "ev") (mono_Ls (mono_T2 mono_Tl mono_Tl) _) (bin_addlist (mono_T2 mono_Tl mono_Tl) (by simp [sizeLine]; lia))) (mono_T2 mono_Tl mono_Tl) fun s₇ l₇ F₇ => ?_
  -- figures = figures[-1:] + figures[:-1]
  have hln : (toN (figs ++ [g])).length = m := by rw [toN_len]; simp; lia
  have hsn : toN (figs ++ [g]) = toN figs ++ [(g : Int)] := by simp [toN]
  refine' bl_assign (S := Ls I (toN (g :: figs))) F₇ rm ?_ (mono_Ls mono_I _) (.inl (by kernel_rfl)) (by kernel_rfl) fun s₈ l₈ F₈ => ?_
  · have c1 := cut_last (toN figs) (g : Int)
    have c2 := cut_init (toN figs) (g : Int)
    have e : toN (g :: figs) = cut (toN (figs ++ [g])) (some (-1)) none ++ cut (toN (figs ++ [g])) none (some (-1)) := by rw [hsn, c1, c2]; rfl
    rw [e]
    exact ev_binz F₇.live (ev_cut F₇.live (by walk_at "ev") (ev_slice F₇.live (evp_some (ev_neg (Z0 := []) (a := 1) ev_int)) evp_none evp_none) mono_I (by rw [hln]; show _ ≤ 16777216; lia)) (ev_cut F₇.live (by walk_at "ev") (ev_slice F₇.live evp_none (evp_some (ev_neg (Z0 := []) (a := 1) ev_int)) evp_none) mono_I (by rw [hln]; show _ ≤ 16777216; lia)) (mono_Ls mono_I _) (bin_addlist mono_I (by rw [hsn, c1, c2, toN_len]; show _ ≤ 16777216; simp; lia))
  -- number
  refine' bl_assign (S := I ((rotN m N : Nat) : Int)) F₈ rm ?_ (mono_I _) (.inl (by kernel_rfl)) (by kernel_rfl) fun s₉ l₉ F₉ => bl_nil (q s₉ ?_ ?_)
  · have hm16 : N % 16 < 16 := Nat.mod_lt _ (by decide)
    have em : ((m : Int) - 1).toNat = m - 1 := by lia
    refine EV.eqI (a := (N : Int).fdiv 16 + (N : Int).fmod 16 * (16 : Int) ^ ((m : Int) - 1).toNat) ?_ (ev_binr (ev_binr (by walk_at "ev") (by walk_at "ev") (mono_I _) (bin_fdiv (by decide) (by decide))) (ev_binr (ev_binr (by walk_at "ev") (by walk_at "ev") (mono_I _) (bin_mod (by decide))) (ev_binr (by walk_at "ev") (ev_binr (by walk_at "ev") (by walk_at "ev") (mono_I _) bin_sub) (mono_I _) (bin_pow (by lia) (by lia) (by decide))) (mono_I _) (bin_mul (mul_ok ?_))) (mono_I _) bin_add)
    · rw [em, Int.fdiv_eq_ediv_of_nonneg _ (by decide), show (N : Int).fmod 16 = ((N % 16 : Nat) : Int) from fmod_nat N 16]
      unfold rotN
      push_cast
      rfl
    · rw [show (N : Int).fmod 16 = ((N % 16 : Nat) : Int) from fmod_nat N 16]
      lia
  · exact (l₁.trans l₂).g.trans (lg.trans ((((klike k₄).trans (klike k₅)).trans (l₆.trans l₇)).trans (l₈.trans l₉)).g)
  · exact F₉.sel (by walk_at "sel")
end
end
end
section
open PySem PySem.W PyProof.Rows
set_option Elab.async false
set_option maxRecDepth 100000
set_option linter.unusedVariables false
set_option maxHeartbeats 4000000
noncomputable section
noncomputable def tripsG (w P : List Nat) (x m i : Nat) : List (Nat × Nat × Nat) := (List.range i).map fun j => (itN (pG P) j x, nG w P m (itN (pG P) j x), 16 ^ m - 1)
theorem trips_len (w P : List Nat) (x m i : Nat) : (tripsG w P x m i).length = i := by simp [tripsG]
theorem trips_succ (w P : List Nat) (x m i : Nat) : tripsG w P x m (i + 1) = tripsG w P x m i ++ [(itN (pG P) i x, nG w P m (itN (pG P) i x), 16 ^ m - 1)] := by simp [tripsG, List.range_succ]
theorem trips_ring {n : Nat} {w P : List Nat} {x m : Nat} (G : GRok n w P) (h : wayP P x n = orbG P x m) : tripsG w P x m m = ringT w P x := by
  unfold ringT tripsG
  rw [G.wl, h, orb_len]
  unfold orbG
  rw [List.map_map]
  rfl
theorem hid2_get {h : Heap} {b : Addr} {o : Obj} (e : h.get? b = some o) (h1 : b ≠ 87) (h2 : b ≠ 94) : (hid [87, 94] h).get? b = some o := hid_get e (by simp [h1, h2])
theorem PF.hid2 {w : World} {h : Heap} (p : PF (KW w) h) (h87 : ∃ o, h.get? 87 = some o ∧ TabO h o) (h94 : ∃ o, h.get? 94 = some o ∧ TabO h o) : PF (KW w) (hid [87, 94] h) := by
  have p1 : PF (KW w) (hid [87] h) := p.butTab h87 fun b o hb e => hid_get e (by simpa using hb)
  refine p1.butTabS (let ⟨o, e, t⟩ := h94; ⟨o, hid_get e (by simp), t⟩) fun b o hb e => hid_get (hid_sub _ _ _ _ e) fun m => ?_
  simp only [List.mem_cons, List.not_mem_nil, or_false] at m
  rcases m with q | q
  · rw [q, hid_none (by simp)] at e; cases e
  · exact hb q
theorem BM.hid2 {h : Heap} (p : BM h) (h87 : ∃ o, h.get? 87 = some o ∧ TabO h o) (h94 : ∃ o, h.get? 94 = some o ∧ TabO h o) : BM (hid [87, 94] h) := by
  have p1 : BM (hid [87] h) := p.butTab h87 fun b o hb e => hid_get e (by simpa using hb)
  refine p1.butTabS (let ⟨o, e, t⟩ := h94; ⟨o, hid_get e (by simp), t⟩) fun b o hb e => hid_get (hid_sub _ _ _ _ e) fun m => ?_
  simp only [List.mem_cons, List.not_mem_nil, or_false] at m
  rcases m with q | q
  · rw [q, hid_none (by simp)] at e; cases e
  · exact hb q
section
variable {prog : Program} {w : World} {H : Heap} {X Z : List Addr} {μ : List (Addr × MSp)} {A : Around} {E : Value → Shared → Prop} {s : Shared} {L : Nat} {Q : Flow → Shared → Prop}
variable {n x k m : Nat} {word P : List Nat} {xr d : Addr}
theorem tw_c (F : Fm H (twEnv w L) (xr :: d :: X) (xr :: d :: Z) ((xr, AccP d (T2 Tl Tl) ((dG word P m x).map itemR)) :: (d, SzO (k : Int)) :: [(87, TabO), (94, TabO)]) ((Str.ofString "number", I ((nG word P m x : Nat) : Int)) :: (Str.ofString "ring", V (.ref xr)) :: twυ word P x k m (dG word P m x)) s.heap) (rm : Rm 8 A) (ph : PH prog) (pf : PF (KW w) H) (bm : BM H)
    (G : GRok n word P) (r : RingG n P x m) (hn8 : n ≤ 8) (hk2 : k ≤ 2) (hxz : ∀ z ∈ X, z ∈ Z)
    (q : ∀ v s', LikeG s s' → Sub H s'.heap → (∃ o, s'.heap.get? 87 = some o ∧ TabO s'.heap o) → (∃ o, s'.heap.get? 94 = some o ∧ TabO s'.heap o) → Ls R3 (castT (tripsG word P x m m)) (hid Z s'.heap) v → Q (.ret v) s') :
    wpAny (model prog w) A (execs ((twB w).drop 7) (twEnv w L)) Q E s := by
  have ge : GEnv (twEnv w L) := ⟨by kernel_rfl, by kernel_rfl, by kernel_rfl⟩
  have hmn := r.mn
  have hm1 := r.m1
  refine' bl_own (R := R3) (xs := []) F rm (fun Z' zl' => ev_list0 zl' mono_R3) mono_R3 (fun a h h' v m _ => nomatch m) (.inl (by kernel_rfl)) (by kernel_rfl) fun rt s₁ hrt l₁ F₁ => ?_
  have F₁' : Fm H (twEnv w L) (rt :: xr :: d :: X) (rt :: xr :: d :: Z) (twμ xr d rt (dG word P m (itN (pG P) 0 x)) (if 0 = 0 then k else 0) (tripsG word P x m 0) []) (twρ word P x k m xr rt (dG word P m (itN (pG P) 0 x)) (nG word P m (itN (pG P) 0 x))) s₁.heap := F₁.perm mu_rt.symm
  refine bl_forG (H := H) (X := rt :: xr :: d :: X) (Z := rt :: xr :: d :: Z) (R := I) (xs := toN (orbG P x m)) (S := Ls I (toN (orbG P x m)))
    (μ := fun i => twμ xr d rt (dG word P m (itN (pG P) i x)) (if i = 0 then k else 0) (tripsG word P x m i) [])
    (ρ := fun i => twρ word P x k m xr rt (dG word P m (itN (pG P) i x)) (nG word P m (itN (pG P) i x)))
    (ρt := fun i a => (Str.ofString "place", I a) :: twρ word P x k m xr rt (dG word P m (itN (pG P) i x)) (nG word P m (itN (pG P) i x)))
    F₁' rm (by walk_at "ev") itr_list mono_I (fun _ => rfl) (fun _ => rfl) (fun i a u I' P' H' s' E' ha hR kH F' => tgt_name F' (mono_I _) hR (.inl (by kernel_rfl)) fun s'' l'' F'' => ⟨l''.g, F''⟩) (fun i a I' P' H' s' E' ha kH l' F' => ?_) fun s₂ l₂ F₂ => ?_
  · obtain ⟨hi, rfl, _⟩ := take_get ha
    rw [orb_len] at hi
    have hv : (orbG P x m).getD i 0 = itN (pG P) i x := by rw [List.getD_eq_getElem?_getD, orb_get hi]; rfl
    rw [hv] at F'
    have hlt := r.lt G i
    have hsb := r.sback G i
    have hdl := dG_len word P m (itN (pG P) i x)
    have hfr : ∀ t ∈ tripsG word P x m i, t.2.1 ≠ nG word P m (itN (pG P) i x) := fun t ht => by
      obtain ⟨j, hj, rfl⟩ := List.mem_map.mp ht
      exact r.differ G (List.mem_range.mp hj) hi
    have htl := trips_len word P x m i
    have pf' := pf.sub kH
    have bm' := bm.sub kH
    have G₁ : Fm H' (twEnv w L) (I' :: rt :: xr :: d :: X) (I' :: rt :: xr :: d :: Z) (twμ xr d rt (dG word P m (itN (pG P) i x)) (if i = 0 then k else 0) (tripsG word P x m i) [(I', P')]) ((Str.ofString "place", I ((itN (pG P) i x : Nat) : Int)) :: twρ word P x k m xr rt (dG word P m (itN (pG P) i x)) (nG word P m (itN (pG P) i x))) s'.heap :=
      F'.perm (List.perm_append_comm (l₁ := [(I', P')]) (l₂ := twμ xr d rt (dG word P m (itN (pG P) i x)) (if i = 0 then k else 0) (tripsG word P x m i) []))
    refine tw_t1 G₁ rm pf' bm' (dG_lt G m _) (by lia) (dG_num word P m _).symm fun s₃ l₃ F₃ => ?_
    refine tw_t2 F₃ rm pf' bm' hdl (by lia) ?_ hk2 (by lia) hfr fun s₄ l₄ F₄ => ?_
    · by_cases h0 : i = 0
      · subst h0; rfl
      · rw [if_neg h0, if_neg (fun e => h0 (by rw [e] at htl; exact htl.symm))]
    have hnx : itN (pG P) (i + 1) x = pG P (itN (pG P) i x) := rfl
    have e1 := rot_n G hm1 hlt hsb
    have hsplit : ∃ m', m = m' + 1 ∧ dG word P m (itN (pG P) i x) = dG word P m' (itN (pG P) i x) ++ [word.getD (itN (pG P) i x) 0] ∧ dG word P m (itN (pG P) (i + 1) x) = word.getD (itN (pG P) i x) 0 :: dG word P m' (itN (pG P) i x) := by
      refine ⟨m - 1, by lia, ?_, ?_⟩
      · have h := dG_snoc word P (m - 1) (itN (pG P) i x)
        rw [show m - 1 + 1 = m by lia, hsb] at h
        exact h
      · have h : dG word P (m - 1 + 1) (itN (pG P) (i + 1) x) = word.getD (sG P (itN (pG P) (i + 1) x)) 0 :: dG word P (m - 1) (sG P (itN (pG P) (i + 1) x)) := rfl
        rw [show m - 1 + 1 = m by lia, hnx, G.sp hlt] at h
        exact h
    obtain ⟨m', hm', e2, e3⟩ := hsplit
    rw [e2] at F₄
    refine tw_t3 F₄ rm ph pf' bm' (by rw [dG_len]; lia) (by lia) ?_ hk2 (by rw [List.length_append, htl]; simp; lia) fun s₅ l₅ F₅ => ⟨.inl rfl, l₃.trans (l₄.trans l₅), ?_⟩
    · rw [List.length_append, htl]
      by_cases h0 : i = 0
      · subst h0; rfl
      · rw [if_neg h0, if_neg (by simp; lia)]
    · rw [e1, ← e3, ← hnx] at F₅
      have F₆ := F₅.perm (List.perm_append_comm (l₁ := [(I', P')]) (l₂ := twμ xr d rt (dG word P m (itN (pG P) (i + 1) x)) 0 (tripsG word P x m i ++ [(itN (pG P) i x, nG word P m (itN (pG P) i x), 16 ^ m - 1)]) [])).symm
      rw [← trips_succ] at F₆
      exact F₆
  · rw [toN_len, orb_len] at F₂
    have G₂ := F₂.perm mu_rt
    have G₃ := G₂.give (y := Str.ofString "turned") mono_R3 (by walk_at "lk") hrt F.xz
    refine bl_return (S := Ls R3 (castT (tripsG word P x m m))) rm (Z := xr :: d :: Z) (ev_var G₃.loc (by walk_at "lk") (fun _ h => h) (by decide +kernel)) fun v s₃ k₃ hv => ?_
    have G₄ := G₃.keep (ksub k₃)
    have own : ∀ a, (a, TabO) ∈ [(xr, AccP d (T2 Tl Tl) ((dG word P m (itN (pG P) m x)).map itemR)), (d, SzO ((if m = 0 then k else 0 : Nat) : Int)), (87, TabO), (94, TabO)] → ∃ o, s₃.heap.get? a = some o ∧ TabO s₃.heap o := fun a ha => by
      obtain ⟨_, _, _, _, o, e, t⟩ := G₄.own _ ha
      exact ⟨o, e, t⟩
    exact q v s₃ (l₁.g.trans (l₂.trans (klike k₃).g)) G₄.sub (own 87 (by simp)) (own 94 (by simp)) (mono_Ls mono_R3 _ _ _ _ (hid_less fun a m => .tail _ (.tail _ m)) hv)
theorem mc_turned {R : Result → Shared → Prop} {t t' : Tok} {wv pv : Value} (ph : PH prog) (pf : PF (KW w) s.heap) (bm : BM s.heap) (rm : Rm 9 A) (zl : Zl s.heap Z) (z87 : 87 ∈ Z) (z94 : 94 ∈ Z) (h87 : ∃ o, s.heap.get? 87 = some o ∧ TabO s.heap o) (h94 : ∃ o, s.heap.get? 94 = some o ∧ TabO s.heap o)
    (G : GRok n word P) (hx : x < n) (hn8 : n ≤ 8) (hk2 : k ≤ 2) (hw : Ls I (toN word) (hid Z s.heap) wv) (hp : Ls I (toN P) (hid Z s.heap) pv)
    (q : ∀ s' v, LikeG s s' → (∀ b o, b ≠ 87 → b ≠ 94 → s.heap.get? b = some o → s'.heap.get? b = some o) → (∃ o, s'.heap.get? 87 = some o ∧ TabO s'.heap o) → (∃ o, s'.heap.get? 94 = some o ∧ TabO s'.heap o) → Ls R3 (castT (ringT word P x)) (hid Z s'.heap) v → R (.ok (.ret v)) s') :
    codeAny (model prog w) A (.call (.ref 161) ⟨[wv, pv, .int (x : Int) t, .int (k : Int) t'], []⟩) R s := by
  obtain ⟨fa, hb⟩ := fnAt_of pf.X pf.nl (fnB_tw _)
  obtain ⟨m, hway, r⟩ := G.way hx
  refine enter_fnB (n := 8) (Z := Z) (Xc := [87, 94]) (μ := [(87, TabO), (94, TabO)]) (ρ := twσ word P x k) (binds := [(Str.ofString "word", wv), (Str.ofString "places", pv), (Str.ofString "start", .int (x : Int) t), (Str.ofString "room", .int (k : Int) t')]) rm fa hb (binds_peek pf.X (fun _ => by kernel_rfl)) (by kernel_rfl) ?_ (by show [Str.ofString "word", Str.ofString "places", Str.ofString "start", Str.ofString "room"].Nodup; decide +kernel) ?_ zl (by kernel_rfl) (by kernel_rfl) (by kernel_rfl) (by simp [z87, z94])
    (.cons hw (mono_Ls mono_I _) (.cons hp (mono_Ls mono_I _) (.cons ⟨t, rfl⟩ (mono_I _) (.cons ⟨t', rfl⟩ (mono_I _) .nil)))) ?_ (by simp) fun L s₁ E' hL rm' l₁ F sub => ?_
  · intro L y hy
    simp only [List.mem_cons, List.not_mem_nil, or_false] at hy
    rcases hy with rfl | rfl | rfl | rfl
    · exact .inr ⟨by kernel_rfl, by kernel_rfl⟩
    · exact .inl (by kernel_rfl)
    · exact .inl (by kernel_rfl)
    · exact .inl (by kernel_rfl)
  · exact cells_ok (by kernel_rfl)
  · intro p hp
    simp only [List.mem_cons, List.not_mem_nil, or_false] at hp
    rcases hp with rfl | rfl
    · obtain ⟨o, e, h⟩ := h87
      exact ⟨by simp, mono_TabO, o, e, h⟩
    · obtain ⟨o, e, h⟩ := h94
      exact ⟨by simp, mono_TabO, o, e, h⟩
  have p0 := pf.hid2 h87 h94
  have b0 := bm.hid2 h87 h94
  refine tw_a F rm' p0 G hx hn8 fun s₂ l₂ F₂ => ?_
  rw [hway] at F₂
  refine tw_b F₂ rm' ph p0 G r hn8 fun xr d s₃ hxr hd l₃ F₃ => ?_
  refine tw_c F₃ rm' ph p0 b0 G r hn8 hk2 F₂.xz fun v s₄ l₄ sb t87 t94 hv => ?_
  rw [trips_ring G hway] at hv
  refine q s₄ v ((l₁.g.trans (l₂.trans l₃).g).trans l₄) (fun b o hb1 hb2 e => sb b o (hid2_get e hb1 hb2)) t87 t94 ?_
  exact mono_Ls mono_R3 _ _ _ _ (hid_less fun a m => .tail _ (List.mem_append_right _ m)) hv
end
end
end
section
open PySem PySem.W PyProof.Rows
set_option Elab.async false
set_option maxRecDepth 100000
set_option linter.unusedVariables false
set_option maxHeartbeats 4000000
noncomputable section
/-! ## sorting triples whose first parts differ -/
noncomputable def fstT (T : List (Nat × Nat × Nat)) (i : Nat) : Nat := (T.getD i (0, 0, 0)).1
noncomputable def srtT (T : List (Nat × Nat × Nat)) : List (Nat × Nat × Nat) := T.mergeSort fun a b => decide (a.1 ≤ b.1)
theorem srtT_perm (T : List (Nat × Nat × Nat)) : (srtT T).Perm T := List.mergeSort_perm _ _
theorem nodup_fst {T : List (Nat × Nat × Nat)} (nd : (T.map (·.1)).Nodup) {a b : Nat × Nat × Nat} (ha : a ∈ T) (hb : b ∈ T) (e : a.1 = b.1) : a = b := by
  obtain ⟨i, hi, rfl⟩ := List.mem_iff_getElem.mp ha
  obtain ⟨j, hj, rfl⟩ := List.mem_iff_getElem.mp hb
  have h := List.pairwise_iff_getElem.mp nd
  have hi' : i < (T.map (·.1)).length := by simpa using hi
  have hj' : j < (T.map (·.1)).length := by simpa using hj
  rcases Nat.lt_trichotomy i j with q | q | q
  · exact absurd (by simpa using e) (h i j hi' hj' q)
  · subst q; rfl
  · exact absurd (by simpa using e.symm) (h j i hj' hi' q)
theorem srtT_lt {T : List (Nat × Nat × Nat)} (nd : (T.map (·.1)).Nodup) : (srtT T).Pairwise fun a b => a.1 < b.1 := by
  have h1 := List.pairwise_mergeSort (le := fun (a b : Nat × Nat × Nat) => decide (a.1 ≤ b.1)) (fun a b c h1 h2 => by simp at *; lia) (fun a b => by simp; lia) T
  have h2 : (srtT T).Pairwise fun a b => a.1 ≠ b.1 := by
    have : ((srtT T).map (·.1)).Nodup := ((srtT_perm T).map _).nodup_iff.mpr nd
    exact List.pairwise_map.mp this
  refine (h1.and h2).imp fun h => ?_
  have := h.1
  have := h.2
  simp at *
  lia
theorem srtT_unique {T T' : List (Nat × Nat × Nat)} (nd : (T.map (·.1)).Nodup) (p : T'.Perm T) (o : T'.Pairwise fun a b => a.1 < b.1) : T' = srtT T := by
  refine List.Perm.eq_of_pairwise (le := fun a b => a.1 ≤ b.1) (fun a b ha hb h1 h2 => nodup_fst nd (p.mem_iff.mp ha) ((srtT_perm T).mem_iff.mp hb) (Nat.le_antisymm h1 h2)) (o.imp fun h => Nat.le_of_lt h) ((srtT_lt nd).imp fun h => Nat.le_of_lt h) (p.trans (srtT_perm T).symm)
noncomputable def TrAt (h : Heap) (v : Value) (t : Nat × Nat × Nat) : Prop := ∃ a u1 u2 u3, v = .ref a ∧ h.IsTuple a #[.int (t.1 : Int) u1, .int (t.2.1 : Int) u2, .int (t.2.2 : Int) u3]
theorem TrAt.at {h h' : Heap} {v : Value} {t} (x : TrAt h v t) {b : Addr} (ne : ∀ o, h.get? b = some o → o.cls ≠ .type "tuple") (k : ∀ c o, c ≠ b → h.get? c = some o → h'.get? c = some o) : TrAt h' v t := by
  obtain ⟨a, u1, u2, u3, e, o, e1, c1, r⟩ := x
  exact ⟨a, u1, u2, u3, e, o, k a o (fun q => ne o (q ▸ e1) c1) e1, c1, r⟩
section
variable {prog : Program} {w : World} {A : Around} {E : Value → Shared → Prop} {s : Shared} {n : Nat}
theorem tr_good {vs : List Value} {T : List (Nat × Nat × Nat)} (hp : Paired (fun t v => TrAt s.heap v t) T vs) (nd : (T.map (·.1)).Nodup) :
    ∀ i j, i < vs.length → j < vs.length → ∀ C : Bool → Shared → Prop, C (decide (fstT T i < fstT T j)) s → kas_ask prog w A (tuples' true) vs i j C s := fun i j hi hj C hC => by
  have hl := hp.length
  obtain ⟨t, ht, a, u1, u2, u3, e, o, e1, c1, n1, d1⟩ := paired_get hp (i := i) (b := vs[i]) (by simp [hi])
  obtain ⟨t', ht', a', u1', u2', u3', e', o', e1', c1', n1', d1'⟩ := paired_get hp (i := j) (b := vs[j]) (by simp [hj])
  have fi : fstT T i = t.1 := by unfold fstT; rw [List.getD_eq_getElem?_getD, ht]; rfl
  have fj : fstT T j = t'.1 := by unfold fstT; rw [List.getD_eq_getElem?_getD, ht']; rfl
  rw [fi, fj] at hC
  unfold kas_ask
  have gi : vs.getD i Value.none = .ref a := by rw [List.getD_eq_getElem?_getD, List.getElem?_eq_getElem hi, e]; rfl
  have gj : vs.getD j Value.none = .ref a' := by rw [List.getD_eq_getElem?_getD, List.getElem?_eq_getElem hj, e']; rfl
  rw [gi, gj]
  refine kat_lt e1 d1 e1' d1' ?_
  show KatLex prog w A true (decide (3 < 3)) C [(.int (t.1 : Int) u1, .int (t'.1 : Int) u1'), (.int (t.2.1 : Int) u2, .int (t'.2.1 : Int) u2'), (.int (t.2.2 : Int) u3, .int (t'.2.2 : Int) u3')] 0 s
  refine kat_cons (wpAny_eqBool_int ?_)
  by_cases hne : t.1 = t'.1
  · have tt : t = t' := nodup_fst nd (List.mem_of_getElem? ht) (List.mem_of_getElem? ht') hne
    subst tt
    rw [beq_self_eq_true]
    refine kat_yes (kat_cons (wpAny_eqBool_int ?_))
    rw [beq_self_eq_true]
    refine kat_yes (kat_cons (wpAny_eqBool_int ?_))
    rw [beq_self_eq_true]
    refine kat_yes (kat_nil ?_)
    rw [decide_eq_false (Nat.lt_irrefl _)] at hC
    exact hC
  · have : ((t.1 : Int) == (t'.1 : Int)) = false := by rw [beq_eq_false_iff_ne]; lia
    rw [this]
    refine kat_no ?_
    show wpAny _ _ (oneLt' true _ _) _ _ _
    refine oneLt_int ?_
    have e2 : decide ((t.1 : Int) < (t'.1 : Int)) = decide (t.1 < t'.1) := decide_eq_decide.mpr (by lia)
    rw [e2]; exact hC
theorem tr_kind {vs : List Value} {T : List (Nat × Nat × Nat)} {Q : SortKind → Shared → Prop} (hp : Paired (fun t v => TrAt s.heap v t) T vs) (h0 : 0 < vs.length) (q : Q (tuples' true) s) : wpAny (model prog w) A (keyKind' vs.toArray) Q E s := by
  have key : ∀ (T : List (Nat × Nat × Nat)) (vs : List Value), Paired (fun t v => TrAt s.heap v t) T vs → ∃ fs : List Value, KatTups s.heap vs fs ∧ fs.length = vs.length ∧ ∀ v ∈ fs, ∃ i u, v = .int i u := fun T vs hp => by
    induction hp with
    | nil => exact ⟨[], .nil, rfl, fun v m => nomatch m⟩
    | cons x r ih =>
      obtain ⟨a, u1, u2, u3, rfl, o, e1, c1, n1, d1⟩ := x
      obtain ⟨fs, k1, k2, k3⟩ := ih
      refine ⟨.int _ u1 :: fs, KatTups.cons e1 c1 d1 rfl k1, by simp [k2], fun v m => ?_⟩
      rcases List.mem_cons.mp m with rfl | m
      · exact ⟨_, _, rfl⟩
      · exact k3 v m
  obtain ⟨fs, k1, k2, k3⟩ := key T vs hp
  refine kat_kind (T := .type "int") k1 (by lia) (fun v hv => ?_) rfl q
  obtain ⟨i, u, rfl⟩ := k3 v hv
  exact Looks.now
noncomputable def outOf (vs : List Value) (p : Array Nat) : Array Value := List.toArray (p.toList.map fun i => vs.getD i Value.none)
theorem list_sort_tr {a : Addr} {vs : List Value} {T : List (Nat × Nat × Nat)} {k : Nat} {P : Fin → Shared → Prop} (ho : s.heap.get? a = some (seqObj "list" vs.toArray k)) (hp : Paired (fun t v => TrAt s.heap v t) T vs) (nd : (T.map (·.1)).Nodup) (h2 : 2 ≤ vs.length) (h64 : vs.length < 64)
    (h : ∀ p, PA vs.length p → AscP (fstT T) p vs.length → P (.done (.ret .none)) { s with heap := sortedHeap s.heap a vs (outOf vs p) }) :
    wpAny (model prog w) A (Builtin.«list.sort» ⟨[.ref a], []⟩) P E s := by
  have ha : a < s.heap.objs.size := Heap.lt_size ho
  obtain ⟨e1, ho1⟩ : ∃ e1, (s.heap.update a (Obj.mapSeq fun _ => (#[] : Array Value))).get? a = some (seqObj "list" #[] e1) := ⟨_, get?_update_seq ho fun _ => #[]⟩
  rw [list_sort_plain]
  refine wpAny_bind (listItems_at ho rfl ?_)
  refine wpAny_bind (listUpdate_at ho rfl ?_ (by rw [List.size_toArray, sizeLine_eq]; lia) (Nat.zero_le _))
  refine wpAny_bind (seqEpoch_at ho1 rfl ?_)
  refine wpAny_bind (wpAny_newTuple ?_ (by show vs.length ≤ _; rw [sizeLine_eq]; lia))
  refine wpAny_bind (wpAny_newList ?_ (Nat.zero_le _))
  refine wpAny_holding ?_
  have ho6 : (((s.heap.update a (Obj.mapSeq fun _ => (#[] : Array Value))).push (seqObj "tuple" vs.toArray 0)).push (seqObj "list" #[] 0)).get? a = some (seqObj "list" #[] e1) := Heap.get?_push_of_some _ (Heap.get?_push_of_some _ ho1)
  have hp6 : Paired (fun t v => TrAt (((s.heap.update a (Obj.mapSeq fun _ => (#[] : Array Value))).push (seqObj "tuple" vs.toArray 0)).push (seqObj "list" #[] 0)) v t) T vs :=
    paired_imp (fun t v x => x.at (b := a) (fun o e => by rw [ho] at e; cases e; simp) fun c o hc e => Heap.get?_push_of_some _ (Heap.get?_push_of_some _ (by rw [Heap.get?_update_ne _ _ _ _ hc]; exact e))) hp
  show wpAny (model prog w) A _ P E { s with heap := ((s.heap.update a (Obj.mapSeq fun _ => (#[] : Array Value))).push (seqObj "tuple" vs.toArray 0)).push (seqObj "list" #[] 0) }
  dsimp only
  have hn2 : ¬ vs.toArray.size < 2 := by rw [List.size_toArray]; lia
  rw [if_neg hn2, if_neg hn2]
  refine wpAny_bind (tr_kind hp6 (by lia) ?_)
  have inj : ∀ i j, i < vs.length → j < vs.length → fstT T i = fstT T j → i = j := fun i j hi hj e => by
    have hl := hp.length
    unfold fstT at e
    rw [List.getD_eq_getElem?_getD, List.getD_eq_getElem?_getD, List.getElem?_eq_getElem (by lia), List.getElem?_eq_getElem (by lia)] at e
    have hi' : i < (T.map (·.1)).length := by rw [List.length_map]; lia
    have hj' : j < (T.map (·.1)).length := by rw [List.length_map]; lia
    have hh := List.pairwise_iff_getElem.mp nd
    rcases Nat.lt_trichotomy i j with q | q | q
    · exact absurd (by simpa using e) (hh i j hi' hj' q)
    · exact q
    · exact absurd (by simpa using e.symm) (hh j i hj' hi' q)
  refine wpAny_bind (wpAny_mono (kat_run (vs := vs) (ks := vs) (E := E) (G := fun p s' => s' = { s with heap := ((s.heap.update a (Obj.mapSeq fun _ => (#[] : Array Value))).push (seqObj "tuple" vs.toArray 0)).push (seqObj "list" #[] 0) } ∧ PA vs.length p ∧ AscP (fstT T) p vs.length)
    (Q := fun st' s' => s' = { s with heap := ((s.heap.update a (Obj.mapSeq fun _ => (#[] : Array Value))).push (seqObj "tuple" vs.toArray 0)).push (seqObj "list" #[] 0) } ∧ ∃ p, PA vs.length p ∧ AscP (fstT T) p vs.length ∧ arrOf st' = p.map (kas_item (vs.toArray.zip vs.toArray)) ∧ failedOf st' = none)
    rfl h2 h64 (fun p' st' s' a1 a2 a3 a4 => ⟨a4.1, p', a4.2.1, a4.2.2, a2, a3⟩) (s_sort (tr_good hp6 nd) inj h2 fun p b1 b2 => ⟨rfl, b1, b2⟩)) ?_ fun _ _ e => e)
  rintro ⟨⟨⟩, st'⟩ s' ⟨rfl, p, b1, b2, b3, b4⟩
  dsimp only
  have hout : (arrOf st').map (·.2) = outOf vs p := kat_snds rfl b3
  have hsz : (outOf vs p).size = vs.length := by unfold outOf; rw [List.size_toArray, List.length_map, Array.length_toList, b1.size]
  rw [hout]
  refine wpAny_bind (seqEpoch_at ho6 rfl ?_)
  refine wpAny_bind (listUpdate_at ho6 rfl ?_ (Nat.zero_le _) (Nat.le_trans (Nat.le_of_eq hsz) (by rw [sizeLine_eq]; lia)))
  rw [b4]
  simp only [bne_self_eq_false, Bool.false_eq_true, if_false]
  exact wpAny_pure (h p b1 b2)
theorem sorted_tr {l : Addr} {vs : List Value} {T : List (Nat × Nat × Nat)} {Q : Value → Shared → Prop} (hl : s.heap.IsList l vs.toArray) (hp : Paired (fun t v => TrAt s.heap v t) T vs) (nd : (T.map (·.1)).Nodup) (h2 : 2 ≤ vs.length) (h64 : vs.length < 64)
    (h : ∀ p, PA vs.length p → AscP (fstT T) p vs.length → Q (.ref (s.heap.objs.size + 1)) { s with heap := sortedAll s.heap vs (outOf vs p) }) :
    wpAny (model prog w) A (call (.builtin "sorted") [.ref l]) Q E s := by
  refine Calls.call_function_entry kind_sorted plain_sorted entry_sorted (args_sorted1 _) ?_
  unfold Builtin.«sorted»
  refine wpAny_bind (m := checkCount "sorted" 1 1 _) (wpAny_pure ?_)
  refine wpAny_bind (collect_list hl ?_ (by rw [sizeLine_eq]; lia))
  refine wpAny_bind (wpAny_newList ?_ (by rw [sizeLine_eq]; lia))
  have hsz : ((s.heap.push (seqObj "list" #[] 0)).update s.heap.objs.size (Obj.mapSeq (· ++ vs.toArray))).objs.size = s.heap.objs.size + 1 := by
    rw [Heap.size_update, size_push']
  have hoL : (((s.heap.push (seqObj "list" #[] 0)).update s.heap.objs.size (Obj.mapSeq (· ++ vs.toArray))).push (seqObj "list" vs.toArray 0)).get? (s.heap.objs.size + 1) = some (seqObj "list" vs.toArray 0) := by
    rw [← hsz]; exact Heap.get?_push_size _ rfl
  have keep : ∀ b o, s.heap.get? b = some o → (((s.heap.push (seqObj "list" #[] 0)).update s.heap.objs.size (Obj.mapSeq (· ++ vs.toArray))).push (seqObj "list" vs.toArray 0)).get? b = some o := fun b o q => by
    have hlt : b < s.heap.objs.size := Heap.lt_size q
    refine Heap.get?_push_of_some _ ?_
    rw [Heap.get?_update_ne _ _ _ _ (Nat.ne_of_lt hlt)]
    exact Heap.get?_push_of_some _ q
  have hp2 : Paired (fun t v => TrAt (((s.heap.push (seqObj "list" #[] 0)).update s.heap.objs.size (Obj.mapSeq (· ++ vs.toArray))).push (seqObj "list" vs.toArray 0)) v t) T vs :=
    paired_imp (fun t v x => let ⟨a, u1, u2, u3, e, o, e1, r⟩ := x; ⟨a, u1, u2, u3, e, o, keep _ _ e1, r⟩) hp
  show wpAny _ _ _ _ _ { s with heap := ((s.heap.push (seqObj "list" #[] 0)).update s.heap.objs.size (Obj.mapSeq (· ++ vs.toArray))).push (seqObj "list" vs.toArray 0) }
  rw [hsz]
  refine wpAny_bind (wpAny_holding (wpAny_call_entry slot_list_sort ⟨_, hoL, rfl⟩ entry_list_sort (list_sort_tr (s := { s with heap := ((s.heap.push (seqObj "list" #[] 0)).update s.heap.objs.size (Obj.mapSeq (· ++ vs.toArray))).push (seqObj "list" vs.toArray 0) }) hoL hp2 nd h2 h64 fun p b1 b2 => ⟨_, rfl, ?_⟩) (args_list_sort _)))
  exact wpAny_pure ⟨_, rfl, h p b1 b2⟩
theorem trAt_of {h : Heap} : ∀ {T : List (Nat × Nat × Nat)} {vs : List Value}, Paired (fun x v => R3 x h v) (castT T) vs → Paired (fun t v => TrAt h v t) T vs
  | [], vs, hp => by cases hp; exact .nil
  | t :: T, vs, hp => by
    cases hp with
    | cons x r =>
      obtain ⟨a, v1, v2, v3, rfl, ht, ⟨u1, rfl⟩, ⟨u2, rfl⟩, ⟨u3, rfl⟩⟩ := x
      exact .cons ⟨a, u1, u2, u3, rfl, ht⟩ (trAt_of r)
theorem call_sortedT {T : List (Nat × Nat × Nat)} (nd : (T.map (·.1)).Nodup) (h2 : 2 ≤ T.length) (h64 : T.length < 64) : CallZ prog w n (.builtin "sorted") [Ls R3 (castT T)] (Ls R3 (castT (srtT T))) := fun A s Z E vs rm zl x => by
  obtain ⟨_, rfl, a, ws, rfl, hl, hp⟩ := args1 x
  have hl' : s.heap.IsList a ws.toList.toArray := (plainList_sub (hid_sub Z _) hl).isList
  have hlen : ws.toList.length = T.length := by have := hp.length; rw [castT_len] at this; exact this.symm
  have hp1 := trAt_of (paired_imp (fun x v r => mono_R3 x _ _ _ (hid_sub Z _) r) hp)
  refine sorted_tr hl' hp1 nd (by lia) (by lia) fun p b1 b2 => ?_
  obtain ⟨e, he⟩ := sortedAll_at s.heap ws.toList (outOf ws.toList p)
  have hf : ∀ z ∈ Z, z ≠ s.heap.objs.size + 1 := fun z m q => by
    obtain ⟨o, eo⟩ := zl z m
    have := Heap.lt_size eo
    rw [q] at this
    exact Nat.not_succ_lt_self this
  have hs : srtT T = p.toList.map fun i => T.getD i (0, 0, 0) := by
    symm
    refine srtT_unique nd ?_ ?_
    · have h1 := b1.perm.map fun i => T.getD i (0, 0, 0)
      have h3 : (List.range ws.toList.length).map (fun i => T.getD i (0, 0, 0)) = T := by
        rw [hlen]
        apply List.ext_getElem?
        intro i
        rw [List.getElem?_map]
        by_cases hi : i < T.length
        · rw [List.getElem?_range hi, List.getElem?_eq_getElem hi]
          show some (T.getD i (0, 0, 0)) = _
          rw [List.getD_eq_getElem?_getD, List.getElem?_eq_getElem hi]; rfl
        · rw [List.getElem?_eq_none (by simpa using hi), List.getElem?_eq_none (by lia)]; rfl
      rw [h3] at h1
      exact h1
    · rw [List.pairwise_iff_getElem]
      intro i j hi hj hij
      have hi' : i < p.size := by simpa using hi
      have hj' : j < p.size := by simpa using hj
      have := b2 i j hij (by rw [← b1.size]; exact hj')
      rw [getD_q, getD_q, Array.getElem?_eq_getElem hi', Array.getElem?_eq_getElem hj'] at this
      simp only [List.getElem_map, Array.getElem_toList]
      exact this
  refine ⟨⟨_, s.toks, rfl, fun b o e => sortedAll_old e⟩, _, outOf ws.toList p, rfl, ⟨e, hid_get he fun m => hf _ m rfl⟩, ?_⟩
  rw [hs]
  unfold castT outOf
  rw [List.map_map]
  refine paired_of_get (by simp) fun i x y h1 h2 => ?_
  rw [List.getElem?_map] at h1
  have h2' : (p.toList.map fun i => ws.toList.getD i Value.none)[i]? = some y := h2
  rw [List.getElem?_map] at h2'
  cases hi : p.toList[i]? with
  | none => rw [hi] at h1; cases h1
  | some j =>
    rw [hi] at h1 h2'
    cases h1; cases h2'
    have hj : j < ws.toList.length := List.mem_range.mp (b1.perm.mem_iff.mp (List.mem_of_getElem? hi))
    have hc : (castT T)[j]? = some ((((T.getD j (0, 0, 0)).1 : Nat) : Int), (((T.getD j (0, 0, 0)).2.1 : Nat) : Int), (((T.getD j (0, 0, 0)).2.2 : Nat) : Int)) := by
      unfold castT
      rw [List.getElem?_map, List.getElem?_eq_getElem (by lia), List.getD_eq_getElem?_getD, List.getElem?_eq_getElem (by lia)]; rfl
    obtain ⟨v, hv, hr⟩ := paired_get' hp hc
    have e3 : ws.toList.getD j Value.none = v := by rw [List.getD_eq_getElem?_getD, hv]; rfl
    show R3 _ _ (ws.toList.getD j Value.none)
    rw [e3]
    exact mono_R3 _ _ _ _ (hid_sub_mono fun b o e => sortedAll_old e) hr
end
end
end
section
open PySem PySem.W PyProof.Rows
set_option Elab.async false
set_option maxRecDepth 100000
set_option linter.unusedVariables false
set_option maxHeartbeats 4000000
noncomputable section
noncomputable def bases8 : List Int := [2, 2, 0, 0, 1, 1, 3, 1]
noncomputable def eightN (xs : List Int) : List Nat := (sumsOf xs bases8).map Int.toNat
theorem eightN_is {xs : List Int} (hx : xs.length ≤ 63) : toN (eightN xs) = sumsOf xs bases8 ∧ (eightN xs).length = 8 ∧ ∀ e ∈ eightN xs, e ≤ 63000100 := by
  have hb := sumsOf_bd (xs := xs) (bases := bases8) hx fun k => by
    match k with
    | 0 | 1 | 2 | 3 | 4 | 5 | 6 | 7 => exact ⟨by decide, by decide⟩
    | k + 8 => exact ⟨by simp [bases8], by simp [bases8]⟩
  refine ⟨?_, by unfold eightN; rw [List.length_map, sumsOf_len], fun e m => ?_⟩
  · unfold toN eightN
    rw [List.map_map]
    have : ∀ l : List Int, (∀ x ∈ l, 0 ≤ x) → l.map ((fun k : Nat => (k : Int)) ∘ Int.toNat) = l := fun l h => by
      induction l with
      | nil => rfl
      | cons a l ih =>
        have h0 := h a (.head _)
        rw [List.map_cons, ih fun x m => h x (.tail _ m)]
        congr 1
        show ((a.toNat : Nat) : Int) = a
        lia
    exact this _ fun x m => (hb x m).1
  · obtain ⟨y, hy, rfl⟩ := List.mem_map.mp m
    have := hb y hy
    lia
theorem toN_sum : ∀ e : List Nat, (toN e).sum = ((e.sum : Nat) : Int)
  | [] => rfl
  | a :: e => by
    have ih := toN_sum e
    unfold toN at ih ⊢
    rw [List.map_cons, List.sum_cons, ih, List.sum_cons]; rfl
theorem sum_le8 : ∀ {e : List Nat}, (∀ x ∈ e, x ≤ 63000100) → e.sum ≤ 63000100 * e.length
  | [], _ => by simp
  | a :: e, h => by
    have h1 := h a (.head _)
    have h2 := sum_le8 fun x m => h x (.tail _ m)
    rw [List.sum_cons, List.length_cons]; lia
noncomputable def kindsN (e : List Nat) : List Nat := (e.take (5 + e.sum % 4)).map (· % 4)
noncomputable def baseN (e : List Nat) : Nat := e.sum / 4 % 13
noncomputable def wordN (e : List Nat) : List Nat := (kindsN e).map fun k => baseN e + k
theorem kinds_len {e : List Nat} (h : e.length = 8) : (kindsN e).length = 5 + e.sum % 4 := by
  unfold kindsN; rw [List.length_map, List.length_take]; lia
theorem kinds_lt (e : List Nat) : ∀ k ∈ kindsN e, k < 4 := fun k m => by
  obtain ⟨x, _, rfl⟩ := List.mem_map.mp m
  exact Nat.mod_lt _ (by decide)
theorem word_ok (e : List Nat) : GRok (kindsN e).length (wordN e) (placesP (kindsN e)) := gr_ok (kinds_lt e) (by unfold baseN; lia)
theorem cut_take (l : List Nat) (k : Nat) (h : k ≤ l.length) : cut (toN l) none (some (k : Int)) = toN (l.take k) := by
  unfold cut
  simp only [Option.elim]
  have c : clipAt (toN l).length (k : Int) = k := by
    rw [toN_len]
    have := clipAt_cast l.length (k : Int)
    unfold clipAt
    split <;> lia
  rw [c, List.drop_zero, Nat.sub_zero]
  unfold toN
  rw [List.map_take]
theorem rg_toN (n : Nat) : rgList 0 1 n = toN (List.range n) := by
  unfold rgList toN
  apply List.map_congr_left
  intro a _
  show (0 : Int) + (a : Int) * 1 = _
  lia
theorem fnB_law (P : Params) : isFnB (K1 P) 166 = true := by kernel_rfl
noncomputable abbrev lwEnv (w : World) (L : Nat) : Env := callEnvC (fdOf (K1 w.params) 166) L 166
noncomputable def lwB (w : World) : List Stmt := bodyOf (fdOf (K1 w.params) 166)
noncomputable abbrev lwσ (e : List Nat) : List (Str × Sp) := [(Str.ofString "places", Ls I (toN (placesP (kindsN e)))), (Str.ofString "word", Ls I (toN (wordN e))), (Str.ofString "kinds", Ls I (toN (kindsN e))), (Str.ofString "eight", Ls I (toN e))]
section
variable {prog : Program} {w : World} {H : Heap} {X Z : List Addr} {μ : List (Addr × MSp)} {A : Around} {E : Value → Shared → Prop} {s : Shared} {L : Nat} {Q : Flow → Shared → Prop} {xs : List Int} {e : List Nat}
theorem ev_list8 {n : Nat} {env : Env} {h : Heap} {Z : List Addr} {e1 e2 e3 e4 e5 e6 e7 e8 : Expr} {pos : Pos} {α : Type} {R : α → Sp} {a1 a2 a3 a4 a5 a6 a7 a8 : α} (zl : Zl h Z) (ht : backTo pos (starEach [e1, e2, e3, e4, e5, e6, e7, e8] env) = [(false, eval e1 env), (false, eval e2 env), (false, eval e3 env), (false, eval e4 env), (false, eval e5 env), (false, eval e6 env), (false, eval e7 env), (false, eval e8 env)]) (x1 : EV prog w n Z env h e1 (R a1)) (x2 : EV prog w n Z env h e2 (R a2)) (x3 : EV prog w n Z env h e3 (R a3)) (x4 : EV prog w n Z env h e4 (R a4)) (x5 : EV prog w n Z env h e5 (R a5)) (x6 : EV prog w n Z env h e6 (R a6)) (x7 : EV prog w n Z env h e7 (R a7)) (x8 : EV prog w n Z env h e8 (R a8)) (mR : ∀ a, Mono (R a)) : EV prog w n Z env h (.List [e1, e2, e3, e4, e5, e6, e7, e8] pos) (Ls R [a1, a2, a3, a4, a5, a6, a7, a8]) :=
  ev_list (xs := [a1, a2, a3, a4, a5, a6, a7, a8]) zl ht (.cons x1 (mR _) (.cons x2 (mR _) (.cons x3 (mR _) (.cons x4 (mR _) (.cons x5 (mR _) (.cons x6 (mR _) (.cons x7 (mR _) (.cons x8 (mR _) .nil)))))))) (by simp [sizeLine]) mR
theorem lw_a (F : Fm H (lwEnv w L) X Z μ [(Str.ofString "script", Ls I xs)] s.heap) (rm : Rm 12 A) (pf : PF (KW w) H) (hx : xs.length ≤ 63)
    (q : ∀ s', Like s s' → Fm H (lwEnv w L) X Z μ [(Str.ofString "eight", Ls I (toN (eightN xs)))] s'.heap → wpAny (model prog w) A (execs ((lwB w).drop 1) (lwEnv w L)) Q E s') :
    wpAny (model prog w) A (execs (lwB w) (lwEnv w L)) Q E s := by
  have ge : GEnv (lwEnv w L) := ⟨by kernel_rfl, by kernel_rfl, by kernel_rfl⟩
  have p0 := pf.sub F.sub
  refine' bl_assign (S := Ls I (toN (eightN xs))) F rm ?_ (mono_Ls mono_I _) (.inr ⟨by kernel_rfl, by kernel_rfl⟩) (by kernel_rfl) fun s₁ l₁ F₁ => q s₁ l₁ (F₁.sel (by walk_at "sel"))
  rw [(eightN_is hx).1]
  refine ev_pc2 (S2 := Ls I bases8) rfl rfl (by walk_at "ev") (fnAt_of p0.X p0.nl (fnB_sums w.params)).1 F.live (by walk_at "ev") (mono_Ls mono_I _) ?_ (mono_Ls mono_I _) ((pc_sums p0 hx rfl).le (by decide))
  exact ev_list8 F.live (by kernel_rfl) ev_int ev_int ev_int ev_int ev_int ev_int ev_int ev_int mono_I
theorem lw_b (F : Fm H (lwEnv w L) X Z μ [(Str.ofString "eight", Ls I (toN e))] s.heap) (rm : Rm 12 A) (pf : PF (KW w) H) (he8 : e.length = 8) (hle : ∀ x ∈ e, x ≤ 63000100)
    (q : ∀ s', Like s s' → Fm H (lwEnv w L) X Z μ (lwσ e) s'.heap → wpAny (model prog w) A (execs ((lwB w).drop 4) (lwEnv w L)) Q E s') :
    wpAny (model prog w) A (execs ((lwB w).drop 1) (lwEnv w L)) Q E s := by
  have ge : GEnv (lwEnv w L) := ⟨by kernel_rfl, by kernel_rfl, by kernel_rfl⟩
  have p0 := pf.sub F.sub
  have hs := sum_le8 hle
  have hs4 : e.sum % 4 < 4 := Nat.mod_lt _ (by decide)
  have hkl := kinds_len he8
  -- kinds
  refine bl_compn (R := I) (R' := I) (xs := toN (e.take (5 + e.sum % 4))) (f := fun a : Int => a.fmod 4) (ρc := []) F rm (S := Ls I (toN (e.take (5 + e.sum % 4)))) ?_ itr_list mono_I mono_I (by rw [toN_len, List.length_take]; show _ ≤ 16777216; lia) (by walk_at "sc") .nil (fun _ => rfl) (.inl (by kernel_rfl)) (by kernel_rfl) (fun i a C D I' h' hk k' l' zl' => ?_) fun s₁ l₁ F₁ => ?_
  · rw [← cut_take e _ (by lia)]
    have e1 : (5 : Int) + ((toN e).sum).fmod 4 = ((5 + e.sum % 4 : Nat) : Int) := by
      rw [toN_sum, show ((e.sum : Nat) : Int).fmod 4 = ((e.sum % 4 : Nat) : Int) from fmod_nat e.sum 4]; push_cast; rfl
    rw [← e1]
    exact ev_cut F.live (by walk_at "ev") (ev_slice F.live evp_none (evp_some (ev_binr (by walk_at "ev") (ev_binr (ev_call1 rfl rfl (by walk_at "ev") (by walk_at "cw") (by walk_at "ev") (mono_Ls mono_I _) call_sumints) (by walk_at "ev") (mono_I _) (bin_mod (by decide))) (mono_I _) bin_add)) evp_none) mono_I (by rw [toN_len]; show _ ≤ 16777216; lia)
  · exact ev_binr (by walk_at "ev") (by walk_at "ev") (mono_I _) (bin_mod (by decide))
  have e2 : (toN (e.take (5 + e.sum % 4))).map (fun a : Int => a.fmod 4) = toN (kindsN e) := by
    unfold kindsN toN
    rw [List.map_map, List.map_map]
    apply List.map_congr_left
    intro x _
    exact fmod_nat x 4
  rw [e2] at F₁
  -- word
  refine bl_compn (R := I) (R' := I) (xs := toN (kindsN e)) (f := fun a : Int => ((baseN e : Nat) : Int) + a) (ρc := [(Str.ofString "eight", Ls I (toN e))]) F₁ rm (S := Ls I (toN (kindsN e))) (by walk_at "ev") itr_list mono_I mono_I (by rw [toN_len]; show _ ≤ 16777216; lia) (by walk_at "sc") (by walk_at "cap") (fun _ => rfl) (.inl (by kernel_rfl)) (by kernel_rfl) (fun i a C D I' h' hk k' l' zl' => ?_) fun s₂ l₂ F₂ => ?_
  · have p1 := (pf.sub F₁.sub).sub k'
    refine ev_binr (EV.eqI (a := (((toN e).sum).fdiv 4).fmod 13) ?_ (ev_binr (ev_binr (ev_call1 rfl rfl (by walk_at "ev") (by walk_at "cw") (by walk_at "ev") (mono_Ls mono_I _) call_sumints) (by walk_at "ev") (mono_I _) (bin_fdiv (by decide) (by decide))) (by walk_at "ev") (mono_I _) (bin_mod (by decide)))) (by walk_at "ev") (mono_I _) bin_add
    rw [toN_sum, Int.fdiv_eq_ediv_of_nonneg _ (by decide), show ((e.sum : Nat) : Int) / 4 = ((e.sum / 4 : Nat) : Int) from rfl]
    exact fmod_nat (e.sum / 4) 13
  have e3 : (toN (kindsN e)).map (fun a : Int => ((baseN e : Nat) : Int) + a) = toN (wordN e) := by
    unfold wordN toN
    rw [List.map_map, List.map_map]
    apply List.map_congr_left
    intro x _
    rfl
  rw [e3] at F₂
  -- places
  have p2 := pf.sub F₂.sub
  refine' bl_assign (S := Ls I (toN (placesP (kindsN e)))) F₂ rm (ev_pc1 rfl rfl (by walk_at "ev") (fnAt_of p2.X p2.nl (fnB_pl w.params)).1 F₂.live (by walk_at "ev") (mono_Ls mono_I _) ((pc_places p2 (by lia) (by lia) (kinds_lt e)).le (by decide))) (mono_Ls mono_I _) (.inl (by kernel_rfl)) (by kernel_rfl) fun s₃ l₃ F₃ => q s₃ (l₁.trans (l₂.trans l₃)) (F₃.sel (by walk_at "sel"))
end
end
end
section
open PySem PySem.W PyProof.Rows
set_option Elab.async false
set_option maxRecDepth 100000
set_option linter.unusedVariables false
set_option maxHeartbeats 4000000
noncomputable section
noncomputable abbrev lwτ (e : List Nat) (T : List (Nat × Nat × Nat)) : List (Str × Sp) := (Str.ofString "turnings", Ls R3 (castT T)) :: lwσ e
theorem turns_len {n : Nat} {w P : List Nat} (G : GRok n w P) : (turnsP w P n).length = n := by
  have h := turns_sorted G (List.mergeSort_perm (turnsP w P n) (fun a b => decide (a.1 ≤ b.1))) (srtT_lt (turns_inv G n (Nat.le_refl _)).nd)
  have := congrArg List.length h
  rw [List.length_map, List.length_mergeSort, List.length_range] at this
  exact this
theorem turns_le {n : Nat} {w P : List Nat} (G : GRok n w P) (i : Nat) (hi : i ≤ n) : (turnsP w P i).length ≤ n := by
  have h := turns_inv G i hi
  have := nodup_le h.nd fun x m => by
    obtain ⟨t, ht, rfl⟩ := List.mem_map.mp m
    exact h.lt t ht
  rw [List.length_map] at this
  exact this
theorem ring_le {n : Nat} {w P : List Nat} (G : GRok n w P) {x : Nat} (hx : x < n) : (ringT w P x).length ≤ n := by
  obtain ⟨m, hw, r⟩ := G.way hx
  unfold ringT
  rw [List.length_map, G.wl, hw, orb_len]
  exact r.mn
theorem any_cast (T : List (Nat × Nat × Nat)) (i : Nat) : (((castT T).map fun t => t.1).any (· == (i : Int))) = ((T.map (·.1)).any (· == i)) := by
  unfold castT
  rw [List.map_map, List.any_map, List.any_map]
  congr 1
  funext t
  show ((t.1 : Int) == (i : Int)) = (t.1 == i)
  rw [Bool.eq_iff_iff, beq_iff_eq, beq_iff_eq]; lia
section
variable {prog : Program} {w : World} {H : Heap} {env : Env} {X Z : List Addr} {μ : List (Addr × MSp)} {ρ : List (Str × Sp)} {A : Around} {E : Value → Shared → Prop} {s : Shared} {L : Nat} {Q : Flow → Shared → Prop} {xs : List Int} {e : List Nat}
theorem wp_spl4 {n : Nat} {h : Heap} {e1 e2 e3 e4 : Expr} {pos : Pos} {S1 S2 S3 S4 : Sp} {Q : List Value → Shared → Prop} (ht : backTo pos (starEach [e1, e2, e3, e4] env) = [(false, eval e1 env), (false, eval e2 env), (false, eval e3 env), (false, eval e4 env)]) (x : EV prog w n Z env h e1 S1) (m : Mono S1) (x2 : EV prog w n Z env h e2 S2) (m2 : Mono S2) (x3 : EV prog w n Z env h e3 S3) (m3 : Mono S3) (x4 : EV prog w n Z env h e4 S4) (m4 : Mono S4) (rm : Rm n A) (kk : Sub h s.heap)
    (q : ∀ v u t y s', Keeps s s' → S1 (hid Z s'.heap) v → S2 (hid Z s'.heap) u → S3 (hid Z s'.heap) t → S4 (hid Z s'.heap) y → Q [v, u, t, y] s') : wpAny (model prog w) A (spliced (backTo pos (starEach [e1, e2, e3, e4] env))) Q E s := by
  rw [ht]
  refine wpAny_mono (spl (.cons x m (.cons x2 m2 (.cons x3 m3 (.cons x4 m4 .nil)))) rm kk) (fun vs s' ⟨k', hv⟩ => ?_) fun _ _ e => e
  cases hv with
  | cons h1 r => cases r with
    | cons h2 r => cases r with
      | cons h3 r => cases r with
        | cons h4 r => cases r; exact q _ _ _ _ s' k' h1 h2 h3 h4
/-- _law_turned(word, places, start, room) -/
theorem wp_turned {n nn x k : Nat} {word P : List Nat} {e1 e2 e3 e4 : Expr} {pos pf' : Pos} {Q : Value → Shared → Prop} (F : Fm H env X Z ((87, TabO) :: (94, TabO) :: μ) ρ s.heap) (rm : Rm n A) (hn : 9 ≤ n) (ph : PH prog) (pf : PF (KW w) H) (bm : BM H) (ge : GEnv env)
    (hg : env.kindOf (Str.ofString "_law_turned") = some .globalImplicit) (isn : IsN env (.Name (Str.ofString "_law_turned") pf') [e1, e2, e3, e4] pos) (ht : backTo pos (starEach [e1, e2, e3, e4] env) = [(false, eval e1 env), (false, eval e2 env), (false, eval e3 env), (false, eval e4 env)])
    (x1 : EV prog w n Z env s.heap e1 (Ls I (toN word))) (x2 : EV prog w n Z env s.heap e2 (Ls I (toN P))) (x3 : EV prog w n Z env s.heap e3 (I (x : Int))) (x4 : EV prog w n Z env s.heap e4 (I (k : Int)))
    (G : GRok nn word P) (hx : x < nn) (hn8 : nn ≤ 8) (hk2 : k ≤ 2)
    (q : ∀ v s', LikeG s s' → Fm H env X Z ((87, TabO) :: (94, TabO) :: μ) ρ s'.heap → Sub (hid Z s.heap) (hid Z s'.heap) → Ls R3 (castT (ringT word P x)) (hid Z s'.heap) v → Q v s') :
    wpAny (model prog w) A (eval (.Call (.Name (Str.ofString "_law_turned") pf') [e1, e2, e3, e4] [] pos) env) Q E s := by
  rw [isn]
  have p0 := pf.sub F.sub
  refine wpAny_bind (wp_ev (h := s.heap) (n := n) (Z := []) (ev_glob ge (gn_turned p0) hg (by decide +kernel)) rm (Sub.refl _) fun u s₁ k₁ e1 => ?_)
  cases e1
  obtain ⟨⟨of, hof, hd⟩, _⟩ := (fnAt_of (p0.sub (ksub k₁)).X (p0.sub (ksub k₁)).nl (fnB_tw w.params)).1
  refine cw_fn (h := s₁.heap) hof hd A s₁ E _ pos [] _ (Sub.refl _) (by rw [ht]; rfl) (wp_spl4 (n := n) (h := s.heap) (Z := Z) ht x1 (mono_Ls mono_I _) x2 (mono_Ls mono_I _) x3 (mono_I _) x4 (mono_I _) rm (ksub k₁) fun v u t y s₂ k₂ hv hu ht hy => ⟨ksub k₂, ?_⟩)
  obtain ⟨t1, rfl⟩ := ht
  obtain ⟨t2, rfl⟩ := hy
  have F₂ := (F.keep (ksub k₁)).keep (ksub k₂)
  obtain ⟨_, _, _, o87, e87, c87⟩ := F₂.head
  obtain ⟨_, _, _, o94, e94, c94⟩ := F₂.leave.head
  refine wpAny_call (mc_turned ph (pf.sub F₂.sub) (bm.sub F₂.sub) (rm.le hn) F₂.live F₂.xZ F₂.leave.xZ ⟨_, e87, c87⟩ ⟨_, e94, c94⟩ G hx hn8 hk2 hv hu fun s₃ r lg kk ⟨o1, a1, b1⟩ ⟨o2, a2, b2⟩ hr => ?_)
  refine q r s₃ (((klike k₁).trans (klike k₂)).g.trans lg) (F₂.turn2 kk mono_TabO a1 b1 mono_TabO a2 b2) ((hid_sub_mono ((ksub k₁).trans (ksub k₂))).trans (hid_mono fun b o hb eb => kk b o (fun q => hb (q ▸ F₂.xZ)) (fun q => hb (q ▸ F₂.leave.xZ)) eb)) hr
theorem lw_c (F : Fm H (lwEnv w L) X Z [(87, TabO), (94, TabO)] (lwσ e) s.heap) (rm : Rm 12 A) (ph : PH prog) (pf : PF (KW w) H) (bm : BM H) (he8 : e.length = 8)
    (q : ∀ s', LikeG s s' → Fm H (lwEnv w L) X Z [(87, TabO), (94, TabO)] (lwτ e (turnsP (wordN e) (placesP (kindsN e)) (kindsN e).length)) s'.heap → wpAny (model prog w) A (execs ((lwB w).drop 6) (lwEnv w L)) Q E s') :
    wpAny (model prog w) A (execs ((lwB w).drop 4) (lwEnv w L)) Q E s := by
  have ge : GEnv (lwEnv w L) := ⟨by kernel_rfl, by kernel_rfl, by kernel_rfl⟩
  have hkl := kinds_len he8
  have hs4 : e.sum % 4 < 4 := Nat.mod_lt _ (by decide)
  have G := word_ok e
  have hwl := G.wl
  have hn8 : (kindsN e).length ≤ 8 := by lia
  generalize hw : wordN e = word at *
  generalize hP : placesP (kindsN e) = P at *
  generalize hn : (kindsN e).length = n at *
  refine' bl_assign (S := Ls R3 (castT (turnsP word P 0))) F rm (ev_list0 F.live mono_R3) (mono_Ls mono_R3 _) (.inl (by kernel_rfl)) (by kernel_rfl) fun s₁ l₁ F₁ => ?_
  have p1 := pf.sub F₁.sub
  have hlw : ((toN word).length : Int).toNat = n := by rw [toN_len]; lia
  refine bl_forG (H := H) (X := X) (Z := Z) (R := I) (xs := rgList 0 1 n) (S := Rg 0 1 n) (μ := fun _ => [(87, TabO), (94, TabO)])
    (ρ := fun i => (Str.ofString "turnings", Ls R3 (castT (turnsP word P i))) :: lwσ e)
    (ρt := fun i a => (Str.ofString "start", I a) :: (Str.ofString "turnings", Ls R3 (castT (turnsP word P i))) :: lwσ e)
    F₁ rm ?_ itr_range mono_I (fun _ => rfl) (fun _ => rfl) (fun i a u I' P' H' s' E' ha hR kH F' => tgt_name F' (mono_I _) hR (.inl (by kernel_rfl)) fun s'' l'' F'' => ⟨l''.g, F''⟩) (fun i a I' P' H' s' E' ha kH l' F' => ?_) fun s₂ l₂ F₂ => ?_
  · rw [← hlw]
    have F₁' := F₁.loc
    rw [show lwσ e = [(Str.ofString "places", Ls I (toN P)), (Str.ofString "word", Ls I (toN word)), (Str.ofString "kinds", Ls I (toN (kindsN e))), (Str.ofString "eight", Ls I (toN e))] by rw [← hw, ← hP]] at F₁'
    exact ev_callz1 rfl rfl (by walk_at "ev") (by walk_at "cw") F₁.live (ev_call1 rfl rfl (by walk_at "ev") (by walk_at "cw") (by walk_at "ev") (mono_Ls mono_I _) (call_lenlist (by rw [toN_len]; lia))) (mono_I _) (call_range1 (by rw [toN_len]; lia) (by rw [toN_len]; lia))
  · obtain ⟨hi, rfl⟩ : i < n ∧ a = (i : Int) := by
      rw [rg_toN] at ha
      obtain ⟨h1, h2, _⟩ := take_get ha
      rw [List.length_range] at h1
      refine ⟨h1, ?_⟩
      rw [h2, List.getD_eq_getElem?_getD, List.getElem?_range h1]; rfl
    have hle := turns_le G i (by lia)
    have hrl := ring_le G hi
    have pf' := pf.sub kH
    have bm' := bm.sub kH
    rw [show lwσ e = [(Str.ofString "places", Ls I (toN P)), (Str.ofString "word", Ls I (toN word)), (Str.ofString "kinds", Ls I (toN (kindsN e))), (Str.ofString "eight", Ls I (toN e))] by rw [← hw, ← hP]] at F' ⊢
    have p2 := pf'.sub F'.sub
    refine bl_if (b := !(((castT (turnsP word P i)).map fun t => t.1).any (· == (i : Int)))) rm ?_ fun s₃ k₃ => ?_
    · refine evb_cmpr (Z1 := []) (Z2 := []) (S1 := I (i : Int)) (S2 := Ls I ((castT (turnsP word P i)).map fun t => t.1)) (by walk_at "ev") ?_ (mono_I _) (by kernel_rfl) cmp_notin
      refine ev_compn (R := R3) (R' := I) (xs := castT (turnsP word P i)) (ρc := []) F'.loc0 (S := Ls R3 (castT (turnsP word P i))) (ev_var F'.loc0 (by walk_at "lk") (fun _ h => h) (by decide +kernel)) itr_list mono_R3 mono_I (by rw [castT_len]; show _ ≤ 16777216; lia) (by walk_at "sc") .nil (fun _ => rfl) (fun a m => nomatch m) fun i a C D I' h' ha k' l' zl' => ?_
      exact EV.z (Z := []) (ev_thd (j := 0) (u' := fun a _ _ => a) (ev_var l' lk_here (fun a m => nomatch m) (by decide +kernel)) ev_int mono_I mono_I mono_I rfl (.inl ⟨rfl, rfl⟩)) (flat_I _) _
    · have F₃ := F'.keep (ksub k₃)
      rw [any_cast]
      by_cases hb : ((turnsP word P i).map (·.1)).any (· == i) = true
      · rw [hb]
        refine bl_nil (bl_nil ⟨.inl rfl, (klike k₃).g, ?_⟩)
        have e2 : turnsP word P (i + 1) = turnsP word P i := by rw [turnsP, if_pos hb]
        rw [e2]
        exact F₃.sel (by walk_at "sel")
      · have hb' : ((turnsP word P i).map (·.1)).any (· == i) = false := eq_false_of_ne_true hb
        rw [hb']
        have F₄ := F₃.perm (List.perm_append_comm (l₁ := [(I', P')]) (l₂ := [(87, TabO), (94, TabO)]))
        have p3 := pf'.sub F₃.sub
        refine wpAny_execs_cons (wpAny_Assign_Name (wpAny_BinOp ?_) (by kernel_rfl))
        refine wp_ev (h := s₃.heap) (n := 12) (Z := I' :: Z) (S := Ls R3 (castT (turnsP word P i))) (by walk_at "ev") rm (Sub.refl _) fun u s₄ k₄ hu => ?_
        have F₅ := F₄.keep (ksub k₄)
        have p4 := pf'.sub F₅.sub
        have h0 : (toN e)[((0 : Int)).toNat]? = some ((e.getD 0 0 : Nat) : Int) := toN_get (by lia)
        refine wp_turned (μ := [(I', P')]) (word := word) (P := P) (x := i) (k := e.getD 0 0 % 3) F₅ rm (by decide) ph pf' bm' ge (by kernel_rfl) rfl (by kernel_rfl) (by walk_at "ev") (by walk_at "ev") (by walk_at "ev") (EV.eqI (a := ((e.getD 0 0 : Nat) : Int).fmod 3) (fmod_nat _ 3) (ev_binr (ev_item (k := 0) (by walk_at "ev") (by walk_at "ev") mono_I (by decide) h0 (by decide)) (by walk_at "ev") (mono_I _) (bin_mod (by decide)))) G hi hn8 (by lia) fun v s₅ lg F₆ kz hv => ?_
        refine wpAny_mono (bin_addlist (prog := prog) (w := w) (n := 12) mono_R3 (by rw [castT_len, castT_len]; show _ ≤ 16777216; lia) A s₅ (I' :: Z) _ u v rm F₆.live (mono_Ls mono_R3 _ _ _ _ kz hu) hv) (fun r s₆ ⟨k₆, hr⟩ => ?_) fun _ _ e => e
        refine st_name (F₆.keep (ksub k₆)) (mono_Ls mono_R3 _) hr (.inl (by kernel_rfl)) fun s₇ l₇ F₇ => bl_nil (bl_nil ⟨.inl rfl, ?_, ?_⟩)
        · exact ((klike k₃).trans (klike k₄)).g.trans (lg.trans ((klike k₆).trans l₇).g)
        · have e2 : castT (turnsP word P (i + 1)) = castT (turnsP word P i) ++ castT (ringT word P i) := by
            rw [turnsP, if_neg hb]
            unfold castT
            rw [List.map_append]
          rw [e2]
          exact (F₇.perm (List.perm_append_comm (l₁ := [(I', P')]) (l₂ := [(87, TabO), (94, TabO)])).symm).sel (by walk_at "sel")
  · have hll : (rgList 0 1 n).length = n := by simp [rgList]
    rw [hll] at F₂
    exact q s₂ (l₁.g.trans l₂) F₂
end
end
end
section
open PySem PySem.W PyProof.Rows
set_option Elab.async false
set_option maxRecDepth 100000
set_option linter.unusedVariables false
set_option maxHeartbeats 4000000
noncomputable section
theorem mul_ok64 {a b : Int} (h : a.natAbs < 16 ^ 8) : IntMulOk a b := .of_left (intBits_le_64 (by have : (16 : Nat) ^ 8 = 4294967296 := rfl; lia) (by have : (16 : Nat) ^ 8 = 4294967296 := rfl; lia))
theorem fst_get {T : List (Nat × Nat × Nat)} {n j : Nat} (h : T.map (·.1) = List.range n) (hj : j < n) : ∃ t, T[j]? = some t ∧ t.1 = j ∧ (castT T)[j]? = some ((t.1 : Int), (t.2.1 : Int), (t.2.2 : Int)) := by
  have hl : T.length = n := by have := congrArg List.length h; simpa using this
  have e1 : T[j]? = some T[j] := List.getElem?_eq_getElem (by lia)
  refine ⟨T[j], e1, ?_, ?_⟩
  · have h2 : (T.map (·.1))[j]? = some T[j].1 := by rw [List.getElem?_map, e1]; rfl
    rw [h, List.getElem?_range hj] at h2
    exact (Option.some.inj h2).symm
  · unfold castT; rw [List.getElem?_map, e1]; rfl
theorem rg1_get {n i : Nat} {a : Int} (h : (rgList 1 1 n)[i]? = some a) : i < n ∧ a = ((i + 1 : Nat) : Int) := by
  unfold rgList at h
  rw [List.getElem?_map] at h
  by_cases hi : i < n
  · rw [List.getElem?_range hi] at h
    cases h
    exact ⟨hi, by show (1 : Int) + (i : Int) * 1 = _; lia⟩
  · rw [List.getElem?_eq_none (by simpa using hi)] at h; cases h
section
variable {prog : Program} {w : World} {H : Heap} {X Z : List Addr} {μ : List (Addr × MSp)} {A : Around} {E : Value → Shared → Prop} {s : Shared} {L : Nat} {Q : Flow → Shared → Prop} {xs : List Int} {e : List Nat}
theorem lw_d (F : Fm H (lwEnv w L) X Z μ (lwτ e (turnsP (wordN e) (placesP (kindsN e)) (kindsN e).length)) s.heap) (rm : Rm 12 A) (pf : PF (KW w) H) (he8 : e.length = 8)
    (q : ∀ s', Like s s' → Fm H (lwEnv w L) X Z μ [] s'.heap → Q (.ret (.bool true)) s') :
    wpAny (model prog w) A (execs ((lwB w).drop 6) (lwEnv w L)) Q E s := by
  have ge : GEnv (lwEnv w L) := ⟨by kernel_rfl, by kernel_rfl, by kernel_rfl⟩
  have hkl := kinds_len he8
  have hs4 : e.sum % 4 < 4 := Nat.mod_lt _ (by decide)
  have G := word_ok e
  have hwl := G.wl
  have hn8 : (kindsN e).length ≤ 8 := by lia
  have hn5 : 5 ≤ (kindsN e).length := by lia
  rw [show lwτ e (turnsP (wordN e) (placesP (kindsN e)) (kindsN e).length) = [(Str.ofString "turnings", Ls R3 (castT (turnsP (wordN e) (placesP (kindsN e)) (kindsN e).length))), (Str.ofString "places", Ls I (toN (placesP (kindsN e)))), (Str.ofString "word", Ls I (toN (wordN e))), (Str.ofString "kinds", Ls I (toN (kindsN e))), (Str.ofString "eight", Ls I (toN e))] from rfl] at F
  generalize wordN e = word at *
  generalize placesP (kindsN e) = P at *
  generalize (kindsN e).length = n at *
  have inv := turns_inv G n (Nat.le_refl _)
  have hT := turns_len G
  have hTp := srtT_perm (turnsP word P n)
  have hTs := turns_sorted G hTp (srtT_lt inv.nd)
  have p0 := pf.sub F.sub
  -- turnings = sorted(turnings)
  refine' bl_assign (S := Ls R3 (castT (srtT (turnsP word P n)))) F rm (ev_callz1 rfl rfl (by walk_at "ev") (by walk_at "cw") F.live (by walk_at "ev") (mono_Ls mono_R3 _) (call_sortedT inv.nd (by lia) (by lia))) (mono_Ls mono_R3 _) (.inl (by kernel_rfl)) (by kernel_rfl) fun s₁ l₁ F₁ => ?_
  have F₁ := F₁.sel (ρ' := [(Str.ofString "turnings", Ls R3 (castT (srtT (turnsP word P n)))), (Str.ofString "word", Ls I (toN word))]) (by walk_at "sel")
  have hcross : ∀ a ∈ srtT (turnsP word P n), ∀ b ∈ srtT (turnsP word P n), a.1 < b.1 → a.2.1 * b.2.2 ≤ b.2.1 * a.2.2 := fun a ha b hb h => turns_cross G hTp ha hb h
  have hnum : ∀ t ∈ srtT (turnsP word P n), t.2.1 < 16 ^ 8 := fun t ht => by
    obtain ⟨m, h1, h2, _, h3, _⟩ := inv.ring t (hTp.mem_iff.mp ht)
    rw [h3]
    exact Nat.lt_of_lt_of_le (G.n_lt m _) (Nat.pow_le_pow_right (by decide) (by lia))
  have hSl : (srtT (turnsP word P n)).length = n := by rw [hTp.length_eq, hT]
  generalize srtT (turnsP word P n) = T at *
  have p1 := pf.sub F₁.sub
  have hlw : ((toN word).length : Int).toNat = n := by rw [toN_len]; lia
  -- the places
  refine' bl_if_no rm (evb_cmpr (Z1 := []) (Z2 := []) (S1 := Ls I (toN (List.range n))) ?_ (S2 := Ls I (toN (List.range n))) ?_ (mono_Ls mono_I _) (by kernel_rfl) (cmp_nelist (d := 0) (fun a _ => eqt_I a) (by decide) (by decide))) fun s₂ k₂ => ?_
  · have e2 : toN (List.range n) = (castT T).map fun t => t.1 := by
      rw [← hTs]; unfold toN castT; rw [List.map_map, List.map_map]; rfl
    rw [e2]
    refine ev_compn (R := R3) (R' := I) (xs := castT T) (ρc := []) F₁.loc0 (S := Ls R3 (castT T)) (ev_var F₁.loc0 (by walk_at "lk") (fun _ h => h) (by decide +kernel)) itr_list mono_R3 mono_I (by rw [castT_len]; show _ ≤ 16777216; lia) (by walk_at "sc") .nil (fun _ => rfl) (fun a m => nomatch m) fun i a C D I' h' ha k' l' zl' => ?_
    exact EV.z (Z := []) (ev_thd (j := 0) (u' := fun a _ _ => a) (ev_var l' lk_here (fun a m => nomatch m) (by decide +kernel)) ev_int mono_I mono_I mono_I rfl (.inl ⟨rfl, rfl⟩)) (flat_I _) _
  · rw [← rg_toN]
    refine ev_callz1 (S1 := Rg 0 1 n) rfl rfl (by walk_at "ev") (by walk_at "cw") (List.forall_mem_nil _) ?_ (mono_Rg _ _ _) (call_listrange (by lia))
    rw [← hlw]
    exact ev_callz1 rfl rfl (by walk_at "ev") (by walk_at "cw") (List.forall_mem_nil _) (ev_call1 rfl rfl (by walk_at "ev") (by walk_at "cw") (by walk_at "ev") (mono_Ls mono_I _) (call_lenlist (by rw [toN_len]; lia))) (mono_I _) (call_range1 (by rw [toN_len]; lia) (by rw [toN_len]; lia))
  have F₂ := F₁.keep (ksub k₂)
  have p2 := pf.sub F₂.sub
  -- the fractions
  refine bl_for (H := H) (X := X) (Z := Z) (R := I) (xs := rgList 1 1 (n - 1)) (S := Rg 1 1 (n - 1)) (μ := fun _ => μ) (ρ := fun _ => [(Str.ofString "turnings", Ls R3 (castT T)), (Str.ofString "word", Ls I (toN word))])
    (ρt := fun _ a => [(Str.ofString "k", I a), (Str.ofString "turnings", Ls R3 (castT T)), (Str.ofString "word", Ls I (toN word))])
    F₂ rm ?_ itr_range mono_I (fun _ => rfl) (fun _ => rfl) (fun i a u I' P' H' s' E' ha hR kH F' => tgt_name F' (mono_I _) hR (.inl (by kernel_rfl)) fun s'' l'' F'' => ⟨l'', F''⟩) (fun i a I' P' H' s' E' ha kH l' F' => ?_) fun s₃ l₃ F₃ => ?_
  · have e1 : (((toN word).length : Int) - 1).toNat = n - 1 := by rw [toN_len]; lia
    rw [← e1]
    exact ev_callz2 rfl rfl (by walk_at "ev") (by walk_at "cw") F₂.live (by walk_at "ev") (mono_I _) (ev_call1 rfl rfl (by walk_at "ev") (by walk_at "cw") (by walk_at "ev") (mono_Ls mono_I _) (call_lenlist (by rw [toN_len]; lia))) (mono_I _) (call_range2 (by rw [toN_len]; lia) (by rw [toN_len]; lia) (by decide) (by decide))
  · obtain ⟨hi, rfl⟩ := rg1_get ha
    obtain ⟨t, ht, ht1, htc⟩ := fst_get hTs (j := i) (by lia)
    obtain ⟨u, hu, hu1, huc⟩ := fst_get hTs (j := i + 1) (by lia)
    have hc := hcross t (List.mem_of_getElem? ht) u (List.mem_of_getElem? hu) (by lia)
    have ht8 := hnum t (List.mem_of_getElem? ht)
    have hu8 := hnum u (List.mem_of_getElem? hu)
    have et : ∀ (e1 e2 e3 : Pos) (e4 e5 : Pos), EV prog w 12 [] (lwEnv w L) s'.heap (.Subscript (.Name (Str.ofString "turnings") e1) (.BinOp (.Name (Str.ofString "k") e2) .Sub (.Constant (.int 1) 0 e3) e4) e5) (R3 ((t.1 : Int), (t.2.1 : Int), (t.2.2 : Int))) := fun e1 e2 e3 e4 e5 =>
      ev_item (k := (i : Int)) (ev_var F'.loc0 (by walk_at "lk") (fun _ h => h) (by decide +kernel)) (EV.eqI (a := ((i + 1 : Nat) : Int) - 1) (by lia) (ev_binr (by walk_at "ev") (by walk_at "ev") (mono_I _) bin_sub)) mono_R3 (by lia) htc (by lia)
    have eu : ∀ (e1 e2 : Pos) (e5 : Pos), EV prog w 12 [] (lwEnv w L) s'.heap (.Subscript (.Name (Str.ofString "turnings") e1) (.Name (Str.ofString "k") e2) e5) (R3 ((u.1 : Int), (u.2.1 : Int), (u.2.2 : Int))) := fun e1 e2 e5 =>
      ev_item (k := ((i + 1 : Nat) : Int)) (ev_var F'.loc0 (by walk_at "lk") (fun _ h => h) (by decide +kernel)) (by walk_at "ev") mono_R3 (by lia) huc (by lia)
    refine' bl_if_no rm ?_ fun s₄ k₄ => bl_nil ⟨.inl rfl, klike k₄, ((F'.keep (ksub k₄)).sel (by walk_at "sel"))⟩
    have e1 : decide ((t.2.1 : Int) * (u.2.2 : Int) > (u.2.1 : Int) * (t.2.2 : Int)) = false := decide_eq_false (by
      have : ((t.2.1 * u.2.2 : Nat) : Int) ≤ ((u.2.1 * t.2.2 : Nat) : Int) := Int.ofNat_le.mpr hc
      push_cast at this
      lia)
    rw [← e1]
    exact evb_cmpr (Z1 := []) (Z2 := []) (ev_binr (ev_thd (j := 1) (u' := fun a _ _ => a) (et _ _ _ _ _) ev_int mono_I mono_I mono_I rfl (.inr (.inl ⟨rfl, rfl⟩))) (ev_thd (j := 2) (u' := fun a _ _ => a) (eu _ _ _) ev_int mono_I mono_I mono_I rfl (.inr (.inr ⟨rfl, rfl⟩))) (mono_I _) (bin_mul (mul_ok64 (by rw [Int.natAbs_natCast]; exact ht8)))) (ev_binr (ev_thd (j := 1) (u' := fun a _ _ => a) (eu _ _ _) ev_int mono_I mono_I mono_I rfl (.inr (.inl ⟨rfl, rfl⟩))) (ev_thd (j := 2) (u' := fun a _ _ => a) (et _ _ _ _ _) ev_int mono_I mono_I mono_I rfl (.inr (.inr ⟨rfl, rfl⟩))) (mono_I _) (bin_mul (mul_ok64 (by rw [Int.natAbs_natCast]; exact hu8)))) (mono_I _) (by kernel_rfl) cmp_gt
  · refine bl_return (S := Bo true) rm (Z := Z) ev_bool fun v s₄ k₄ hv => ?_
    cases hv
    exact q s₄ ((l₁.trans (klike k₂)).trans (l₃.trans (klike k₄))) ((F₃.keep (ksub k₄)).sel sel_nil)
theorem mc_law {v : Value} {R : Result → Shared → Prop} (ph : PH prog) (pf : PF (KW w) s.heap) (bm : BM s.heap) (rm : Rm 13 A) (h87 : ∃ o, s.heap.get? 87 = some o ∧ TabO s.heap o) (h94 : ∃ o, s.heap.get? 94 = some o ∧ TabO s.heap o) (hv : Ls I xs s.heap v) (hx : xs.length ≤ 63)
    (q : ∀ s', LikeG s s' → (∀ b o, b ≠ 87 → b ≠ 94 → s.heap.get? b = some o → s'.heap.get? b = some o) → (∃ o, s'.heap.get? 87 = some o ∧ TabO s'.heap o) → (∃ o, s'.heap.get? 94 = some o ∧ TabO s'.heap o) → R (.ok (.ret (.bool true))) s') :
    codeAny (model prog w) A (.call (.ref 166) ⟨[v], []⟩) R s := by
  obtain ⟨fa, hb⟩ := fnAt_of pf.X pf.nl (fnB_law _)
  have hz : Ls I xs (hid [87, 94] s.heap) v := by
    obtain ⟨a, vs, e, ⟨nn, hl⟩, hp⟩ := hv
    refine ⟨a, vs, e, ⟨nn, hid2_get hl (fun m => ?_) (fun m => ?_)⟩, hp⟩
    · subst m
      obtain ⟨o, e2, ps, hd, _⟩ := h87
      rw [hl] at e2; cases e2; cases hd
    · subst m
      obtain ⟨o, e2, ps, hd, _⟩ := h94
      rw [hl] at e2; cases e2; cases hd
  refine enter_fnB (n := 12) (Z := [87, 94]) (Xc := [87, 94]) (μ := [(87, TabO), (94, TabO)]) (ρ := [(Str.ofString "script", Ls I xs)]) (binds := [(Str.ofString "script", v)]) rm fa hb (binds_peek pf.X (fun _ => by kernel_rfl)) (by kernel_rfl) ?_ (by simp) (cells_ok (by kernel_rfl)) ?_ (by kernel_rfl) (by kernel_rfl) (by kernel_rfl) (by simp)
    (.cons hz (mono_Ls mono_I _) .nil) ?_ (by simp) fun L s₁ E' hL rm' l₁ F sub => ?_
  · intro L y hy
    simp only [List.mem_cons, List.not_mem_nil, or_false] at hy
    subst hy
    exact .inl (by kernel_rfl)
  · intro z hz
    simp only [List.mem_cons, List.not_mem_nil, or_false] at hz
    rcases hz with rfl | rfl
    · obtain ⟨o, e, _⟩ := h87; exact ⟨o, e⟩
    · obtain ⟨o, e, _⟩ := h94; exact ⟨o, e⟩
  · intro p hp
    simp only [List.mem_cons, List.not_mem_nil, or_false] at hp
    rcases hp with rfl | rfl
    · obtain ⟨o, e, h⟩ := h87
      exact ⟨by simp, mono_TabO, o, e, h⟩
    · obtain ⟨o, e, h⟩ := h94
      exact ⟨by simp, mono_TabO, o, e, h⟩
  have p0 := pf.hid2 h87 h94
  have b0 := bm.hid2 h87 h94
  obtain ⟨_, he8, hle⟩ := eightN_is hx
  refine lw_a F rm' p0 hx fun s₂ l₂ F₂ => ?_
  refine lw_b F₂ rm' p0 he8 hle fun s₃ l₃ F₃ => ?_
  refine lw_c F₃ rm' ph p0 b0 he8 fun s₄ l₄ F₄ => ?_
  refine lw_d F₄ rm' p0 he8 fun s₅ l₅ F₅ => ?_
  obtain ⟨_, _, _, o87, e87, c87⟩ := F₅.head
  obtain ⟨_, _, _, o94, e94, c94⟩ := F₅.leave.head
  exact q s₅ ((l₁.g.trans (l₂.trans l₃).g).trans (l₄.trans l₅.g)) (fun b o hb1 hb2 e => F₅.sub b o (hid2_get e hb1 hb2)) ⟨_, e87, c87⟩ ⟨_, e94, c94⟩
end
end
end
end Mine
end
open PySem PySem.W PyProof.Rows
set_option Elab.async false
set_option maxRecDepth 100000
set_option linter.unusedVariables false
namespace Mine
theorem wellAll_ints {P : Params} {h : Heap} : ∀ {vs : List Value} {xs : List Int}, WellAll P h vs (ofPys (xs.map PyData.int)) → Paired (fun x v => I x h v) xs vs
  | vs, [], w => by
    have e : ofPys (([] : List Int).map PyData.int) = [] := by simp [ofPys]
    rw [e] at w
    cases w; exact .nil
  | vs, x :: xs, w => by
    have e : ofPys ((x :: xs).map PyData.int) = .int x :: ofPys (xs.map PyData.int) := by simp [ofPys, ofPy]
    rw [e] at w
    cases w with
    | cons a b =>
      cases a
      exact .cons ⟨_, rfl⟩ (wellAll_ints b)
theorem ls_of_well {P : Params} {h : Heap} {v : Value} {xs : List Int} (w : Well P h v (ofPy (PyData.list (xs.map PyData.int)))) : Ls I xs h v := by
  have e : ofPy (PyData.list (xs.map PyData.int)) = .list (ofPys (xs.map PyData.int)) := by simp [ofPy]
  rw [e] at w
  cases w with
  | list hl hw => exact ⟨_, _, rfl, ⟨0, hl⟩, wellAll_ints hw⟩
theorem rm_caller : Rm 13 callerA := ⟨rfl, by decide, by decide⟩
theorem oldK_of {w : World} {h h' : Heap} (X : (KW w).In h) (h0 : h.get? 87 = some (tabObj #[])) (h1 : h.get? 94 = some (tabObj #[])) (k : ∀ b o, b ≠ 87 → b ≠ 94 → h.get? b = some o → h'.get? b = some o) (ht : ∃ o, h'.get? 87 = some o ∧ TabO h' o) (hs : ∃ o, h'.get? 94 = some o ∧ TabO h' o) : OldK h h' := by
  obtain ⟨o', e', ps, hd, _, ho⟩ := ht
  obtain ⟨oc, vs, file, tf, flags, tg, inF, text, tt, e1, e2, e3, e4, _⟩ := codeHd_of_K (c := 91) (P := 87) X (code101 w.params)
  obtain ⟨o2', e2', ps2, hd2, _, ho2⟩ := hs
  obtain ⟨oc2, vs2, file2, tf2, flags2, tg2, inF2, text2, tt2, f1, f2, f3, f4, _⟩ := codeHd_of_K (c := 98) (P := 94) X (codeS w.params)
  refine ⟨fun b o e => ?_, fun b o e => ?_⟩
  · by_cases hb : b = 87
    · subst hb
      rw [h0] at e; cases e
      refine .inr (.inl ⟨⟨91, oc, vs, e1, e2, e3, e4⟩, rfl, #[], ps, rfl, ?_⟩)
      rw [e', ho, Array.empty_append]
    · by_cases hb2 : b = 94
      · subst hb2
        rw [h1] at e; cases e
        refine .inr (.inl ⟨⟨98, oc2, vs2, f1, f2, f3, f4⟩, rfl, #[], ps2, rfl, ?_⟩)
        rw [e2', ho2, Array.empty_append]
      · exact .inl (k b o hb hb2 e)
  · by_cases hb : b = 87
    · subst hb; exact ⟨o', e'⟩
    · by_cases hb2 : b = 94
      · subst hb2; exact ⟨o2', e2'⟩
      · exact ⟨o, k b o hb hb2 e⟩
end Mine
set_option maxRecDepth 100000 in
set_option maxHeartbeats 8000000 in
theorem PySem.Challenge.cw_xl0001_02_holds : PySem.Challenge.rw_xl0001_02.Holds := by
  refine Mine.hd ?_
  intro w s₀ s₁ mg mb G Y fa o pm cd doc dV kV ho hd hcd hD hmg hg args vals as hpre hlay hrd hwl hlo
  have KX := km_in_of Y
  have hT8 := km_tabs_of Y
  refine Ground.open G ?_
  intro T B D TE TW
  try (refine guard_noD D (by decide +kernel) ?_; clear D)
  obtain ⟨bmo, ob, M⟩ := bmod_of_top T
  clear TE TW B G Y hcd hD ho hd
  wrow_args hpre hlay hrd hwl hlo
  rename_i xs _ _ _ _ _ _ _ a _ _ _ _ w1 _ _ _ hc _
  have hm : mg (Str.ofString "law") = some (.ref fa) := hmg
  have e := mg_of (n := Str.ofString "law") (v := .ref 166) KX (Top.g T) (by kernel_rfl)
  rw [hm] at e
  cases e
  have h0 := hT8 87 (by simp)
  have h1 := hT8 94 (by simp)
  have pf : Mine.PF (Mine.KW w) s₁.heap := ⟨KX, T.nolimit, mg, mb, T.g, T.b, T.builtins⟩
  have hx : xs.length ≤ 63 := by lia
  refine wpAny_call (Mine.mc_law (xs := xs) ⟨by decide +kernel, by decide +kernel⟩ pf ⟨mg, bmo, ob, M⟩ Mine.rm_caller ⟨_, h0, #[], rfl, trivial, rfl⟩ ⟨_, h1, #[], rfl, trivial, rfl⟩ (Mine.ls_of_well w1) hx fun s' lg kk ht hs => ?_)
  refine ⟨.inl ⟨_, .bool true, [], rfl, fun _ => rfl, .bool true, by kernel_rfl, fun _ => ⟨List.nodup_nil, fun _ h => nomatch h⟩⟩, Mine.oldK_of KX h0 h1 kk ht hs, lg.2.1, lg.2.2 (AllBare.of_eq hg)⟩
